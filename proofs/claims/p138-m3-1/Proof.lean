import JvmDerived
import JvmDerived.Pilot.@@N@@Statement
import JvmDerived.Pilot.@@N@@Code
set_option linter.unusedVariables false
set_option linter.unusedSimpArgs false
namespace Jvm.RoadKit
open Sem ClassFile Op Lib Jvm.Stand Jvm.Free Jvm.LawKit
section New
variable {p : Program} {l : Launch} {e : Env} {R : Room} {s : State} {m : MethodId} {args : Array Value} {below : List Frame} {meth : Method} {c : Code} {T : State} {locs : List Loc} {cells slots : Nat}
theorem retI (X : Stand p l e R s m args below meth c T locs cells slots) (hx : p.tables.exec = Jvm.exec) {pc : Nat} {Ls : Array Slot} {z : Int32} {rest : List Value} (hret : meth.sig.returnType = some .int) (hd : decode c.code pc = .ok (.ireturn, 1)) {fs : List Frame}
    (hl : ∀ (f : JFrame) (acts : List Action), f.method = m → f.locked = none → f.entered = [] → (doReturn e (T.setTop f) acts (some (.int z))).1 = T.setFrames fs) : Steps p.tables e below (T.setTop (mkF m pc Ls (.int z :: rest))) (T.setFrames fs) := by
  have hm' : T.vm.method? m = some meth := X.method'
  have hn : narrow .int (.int z) = .int z := rfl
  show Steps p.tables e below (T.setTop { method := m, pc := pc, locals := Ls, stack := _ :: rest, locked := none }) _
  jvm_step X.here [X.here.top, hx, hd, hm', hret, hn]
  first | (intro acts; rw [hl _ acts rfl rfl rfl]) | rw [hl _ _ rfl rfl rfl]
  exact Steps.refl _
end New
end Jvm.RoadKit
namespace Jvm.Pilot.@@N@@
open Jvm Jvm.ClassFile Sem Op Lib Jvm.Free Jvm.Stand Jvm.LawKit Jvm.RoadKit Bundle Jvm.Pilot.@@N@@.Jvm.D
section Own
variable {p : Program} {l : Launch} {e : Env} {R : Room} {s : State} {m : MethodId} {args : Array Value} {below : List Frame} {meth : Method} {c : Code} {T T' : State} {locs : List Loc} {cells slots cc nn : Nat} {f f' : JFrame} {Q : Option Value → Heap → List Loc → Prop} {Z : State} {h h' : Heap} {ws : List Addr}
/-- from this state the body comes to its end, and what it leaves is as Q says -/
def own_Ends (p : Program) (e : Env) (below : List Frame) (s : State) (Q : Option Value → Heap → List Loc → Prop) (cc nn : Nat) (T : State) (f : JFrame) : Prop :=
  ∃ s₂ o, Steps p.tables e below (T.setTop f) s₂ ∧ s₂.status = .running ∧ Ended s₂ below o ∧ ∃ v L, o = .returned v ∧ Q v s₂.heap L ∧ FrameEnd s o s₂ L cc nn
theorem own_go (k : ∀ t, Steps p.tables e below (T'.setTop f') t → Steps p.tables e below (T.setTop f) t) (h : own_Ends p e below s Q cc nn T' f') : own_Ends p e below s Q cc nn T f := by
  obtain ⟨s₂, o, h1, h2⟩ := h
  exact ⟨s₂, o, k _ h1, h2⟩
theorem own_ret (X : Stand p l e R s m args below meth c T locs cells slots) {v : Option Value} (hv : meth.sig.returnType = none → v = none) (hlk : meth.locks = false)
    (st : ∀ fs, (∀ (f : JFrame) (acts : List Action), f.method = m → f.locked = none → f.entered = [] → (doReturn e (T.setTop f) acts v).1 = T.setFrames fs) → Steps p.tables e below (T.setTop f) (T.setFrames fs)) (hQ : Q v T.heap locs) (h1 : cells ≤ cc) (h2 : slots ≤ nn) :
    own_Ends p e below s Q cc nn T f := by
  obtain ⟨fs, hr, hrun, hended, hW, hsame⟩ := X.leave (v := v) hv hlk
  exact ⟨_, _, st fs hr, hrun, hended, _, _, rfl, hQ, ⟨_, rfl⟩, hW, hsame.mono h1 h2⟩
theorem own_retL (X : Stand p l e R s m args below meth c T locs cells slots) (hx : p.tables.exec = Jvm.exec) {pc : Nat} {Ls : Array Slot} {z : Int64} {rest : List Value} (hret : meth.sig.returnType = some .long) (hd : decode c.code pc = .ok (.lreturn, 1)) {fs : List Frame}
    (hl : ∀ (f : JFrame) (acts : List Action), f.method = m → f.locked = none → f.entered = [] → (doReturn e (T.setTop f) acts (some (.long z))).1 = T.setFrames fs) : Steps p.tables e below (T.setTop (mkF m pc Ls (.long z :: rest))) (T.setFrames fs) :=
  retOut X hx hret rfl (Or.inr (Or.inl ⟨rfl, rfl, _, rfl⟩)) hd hl
theorem own_retD (X : Stand p l e R s m args below meth c T locs cells slots) (hx : p.tables.exec = Jvm.exec) {pc : Nat} {Ls : Array Slot} {z : UInt64} {rest : List Value} (hret : meth.sig.returnType = some .double) (hd : decode c.code pc = .ok (.dreturn, 1)) {fs : List Frame}
    (hl : ∀ (f : JFrame) (acts : List Action), f.method = m → f.locked = none → f.entered = [] → (doReturn e (T.setTop f) acts (some (.double z))).1 = T.setFrames fs) : Steps p.tables e below (T.setTop (mkF m pc Ls (.double z :: rest))) (T.setFrames fs) :=
  retOut X hx hret rfl (Or.inr (Or.inr (Or.inl ⟨rfl, rfl, _, rfl⟩))) hd hl
theorem own_retA (X : Stand p l e R s m args below meth c T locs cells slots) (hx : p.tables.exec = Jvm.exec) {pc : Nat} {Ls : Array Slot} {w : Value} {t : FieldType} {rest : List Value} (hret : meth.sig.returnType = some t) (ht : t.isReference = true) (hw : w.isRef = true) (hd : decode c.code pc = .ok (.areturn, 1)) {fs : List Frame}
    (hl : ∀ (f : JFrame) (acts : List Action), f.method = m → f.locked = none → f.entered = [] → (doReturn e (T.setTop f) acts (some w)).1 = T.setFrames fs) : Steps p.tables e below (T.setTop (mkF m pc Ls (w :: rest))) (T.setFrames fs) :=
  retOut X hx hret (by cases t <;> first | rfl | (cases ht; done)) (Or.inr (Or.inr (Or.inr (Or.inr ⟨rfl, ht, hw⟩)))) hd hl
theorem own_lc_lt {a b : Int64} : lcmpW a b < 0 ↔ a < b := by
  simp only [lcmpW, gt_iff_lt]
  by_cases h1 : b < a
  · rw [if_pos h1]; exact ⟨fun q => absurd q (by decide), fun q => absurd q (by rw [Int64.lt_iff_toInt_lt] at *; omega)⟩
  · rw [if_neg h1]
    by_cases h2 : a = b
    · rw [if_pos h2]; exact ⟨fun q => absurd q (by decide), fun q => absurd q (by rw [h2, Int64.lt_iff_toInt_lt]; omega)⟩
    · rw [if_neg h2]; exact ⟨fun _ => by rw [Int64.lt_iff_toInt_lt] at *; rw [← Int64.toInt_inj] at h2; omega, fun _ => by decide⟩
theorem own_lc_eq {a b : Int64} : lcmpW a b = 0 ↔ a = b := by
  simp only [lcmpW, gt_iff_lt]
  by_cases h1 : b < a
  · rw [if_pos h1]; exact ⟨fun q => absurd q (by decide), fun q => absurd h1 (by rw [q, Int64.lt_iff_toInt_lt]; omega)⟩
  · rw [if_neg h1]
    by_cases h2 : a = b
    · rw [if_pos h2]; exact ⟨fun _ => h2, fun _ => rfl⟩
    · rw [if_neg h2]; exact ⟨fun q => absurd q (by decide), fun q => absurd q h2⟩
theorem own_lc_gt {a b : Int64} : 0 < lcmpW a b ↔ b < a := by
  simp only [lcmpW, gt_iff_lt]
  by_cases h1 : b < a
  · rw [if_pos h1]; exact ⟨fun _ => h1, fun _ => by decide⟩
  · rw [if_neg h1]
    by_cases h2 : a = b
    · rw [if_pos h2]; exact ⟨fun q => absurd q (by decide), fun q => absurd q h1⟩
    · rw [if_neg h2]; exact ⟨fun q => absurd q (by decide), fun q => absurd q h1⟩
section Arr
variable {target : State} {g : JFrame} {a : Addr} {kc : ClassId} {ty : FieldType} {z : Int32} {vs : List Value} {dv : Value}
theorem own_alen (X : Stand p l e R s m args below meth c T locs cells slots) (hx : p.tables.exec = Jvm.exec) (hZ : Z.Warmed39 s.vm) (eT : T.heap = h) (V : Arv Z h a kc ty z vs dv) (hg : g.method = m) {rest : List Value} (hs : g.stack = .ref a :: rest) (hd : decode c.code g.pc = .ok (.arraylength, 1))
    (hr : Steps p.tables e below (T.setTop { g with pc := g.pc + 1, stack := .int z :: rest }) target) : Steps p.tables e below (T.setTop g) target := by
  obtain ⟨cl, Ar, -, Sz, Ng, -, -⟩ := V
  exact X.arraylength hx (by rw [eT]; exact Ar.1) (State.isArrayOf_alike hZ.alike Ar.2.1) hg hs hd _ (by rw [len_of Sz Ng]; exact hr)
theorem own_ldI (X : Stand p l e R s m args below meth c T locs cells slots) (hx : p.tables.exec = Jvm.exec) (hZ : Z.Warmed39 s.vm) (eT : T.heap = h) (V : Arv Z h a kc .int z vs dv) {j : Int32} {x : Int32} (hin : ¬ j < 0 ∧ j < z) (hv : vs.getD j.toNatClampNeg dv = .int x) (hg : g.method = m) {rest : List Value} (hs : g.stack = .int j :: .ref a :: rest) (hd : decode c.code g.pc = .ok (.iaload, 1))
    (hr : Steps p.tables e below (T.setTop { g with pc := g.pc + 1, stack := .int x :: rest }) target) : Steps p.tables e below (T.setTop g) target := by
  obtain ⟨cl, Ar, -, Sz, Ng, Hs, Ft⟩ := V
  have hq := inb_of (j := j) Sz hin
  exact X.iaload hx (j := j) (v := .int x) (by rw [eT]; exact Ar.1) (State.isArrayOf_alike hZ.alike Ar.2.1) Ar.2.2 hq (Hs.at hq hv) hg hs hd _ hr
theorem own_ldB (X : Stand p l e R s m args below meth c T locs cells slots) (hx : p.tables.exec = Jvm.exec) (hZ : Z.Warmed39 s.vm) (eT : T.heap = h) (V : Arv Z h a kc .byte z vs dv) {j : Int32} {x : Int32} (hin : ¬ j < 0 ∧ j < z) (hv : vs.getD j.toNatClampNeg dv = .int x) (hg : g.method = m) {rest : List Value} (hs : g.stack = .int j :: .ref a :: rest) (hd : decode c.code g.pc = .ok (.baload, 1))
    (hr : Steps p.tables e below (T.setTop { g with pc := g.pc + 1, stack := .int x :: rest }) target) : Steps p.tables e below (T.setTop g) target := by
  obtain ⟨cl, Ar, -, Sz, Ng, Hs, Ft⟩ := V
  have hq := inb_of (j := j) Sz hin
  exact X.baloadBytes hx (j := j) (v := .int x) (by rw [eT]; exact Ar.1) (State.isArrayOf_alike hZ.alike Ar.2.1) Ar.2.2 hq (Hs.at hq hv) hg hs hd _ hr
theorem own_ldC (X : Stand p l e R s m args below meth c T locs cells slots) (hx : p.tables.exec = Jvm.exec) (hZ : Z.Warmed39 s.vm) (eT : T.heap = h) (V : Arv Z h a kc .char z vs dv) {j : Int32} {x : Int32} (hin : ¬ j < 0 ∧ j < z) (hv : vs.getD j.toNatClampNeg dv = .int x) (hg : g.method = m) {rest : List Value} (hs : g.stack = .int j :: .ref a :: rest) (hd : decode c.code g.pc = .ok (.caload, 1))
    (hr : Steps p.tables e below (T.setTop { g with pc := g.pc + 1, stack := .int x :: rest }) target) : Steps p.tables e below (T.setTop g) target := by
  obtain ⟨cl, Ar, -, Sz, Ng, Hs, Ft⟩ := V
  have hq := inb_of (j := j) Sz hin
  exact X.caload hx (j := j) (v := .int x) (by rw [eT]; exact Ar.1) (State.isArrayOf_alike hZ.alike Ar.2.1) Ar.2.2 hq (Hs.at hq hv) hg hs hd _ hr
theorem own_ldJ (X : Stand p l e R s m args below meth c T locs cells slots) (hx : p.tables.exec = Jvm.exec) (hZ : Z.Warmed39 s.vm) (eT : T.heap = h) (V : Arv Z h a kc .long z vs dv) {j : Int32} {x : Int64} (hin : ¬ j < 0 ∧ j < z) (hv : vs.getD j.toNatClampNeg dv = .long x) (hg : g.method = m) {rest : List Value} (hs : g.stack = .int j :: .ref a :: rest) (hd : decode c.code g.pc = .ok (.laload, 1))
    (hr : Steps p.tables e below (T.setTop { g with pc := g.pc + 1, stack := .long x :: rest }) target) : Steps p.tables e below (T.setTop g) target := by
  obtain ⟨cl, Ar, -, Sz, Ng, Hs, Ft⟩ := V
  have hq := inb_of (j := j) Sz hin
  exact X.laload hx (j := j) (v := .long x) (by rw [eT]; exact Ar.1) (State.isArrayOf_alike hZ.alike Ar.2.1) Ar.2.2 hq (Hs.at hq hv) hg hs hd _ hr
theorem own_ldR (X : Stand p l e R s m args below meth c T locs cells slots) (hx : p.tables.exec = Jvm.exec) (hZ : Z.Warmed39 s.vm) (eT : T.heap = h) (V : Arv Z h a kc ty z vs dv) {j : Int32} {x : Value} (hin : ¬ j < 0 ∧ j < z) (hv : vs.getD j.toNatClampNeg dv = x) (hty : ty.isReference = true) (hg : g.method = m) {rest : List Value} (hs : g.stack = .int j :: .ref a :: rest) (hd : decode c.code g.pc = .ok (.aaload, 1))
    (hr : Steps p.tables e below (T.setTop { g with pc := g.pc + 1, stack := x :: rest }) target) : Steps p.tables e below (T.setTop g) target := by
  obtain ⟨cl, Ar, -, Sz, Ng, Hs, Ft⟩ := V
  have hq := inb_of (j := j) Sz hin
  exact X.aaload hx (j := j) (v := x) (by rw [eT]; exact Ar.1) (State.isArrayOf_alike hZ.alike Ar.2.1) hty Ar.2.2 hq (Hs.at hq hv) hg hs hd _ hr
theorem own_stI (X : Stand p l e R s m args below meth c T locs cells slots) (hx : p.tables.exec = Jvm.exec) (hZ : Z.Warmed39 s.vm) (eT : T.heap = h) (V : Arv Z h a kc .int z vs dv) {j : Int32} {x : Int32} (hin : ¬ j < 0 ∧ j < z) (i : Nat) (hj : j.toNatClampNeg = i) (hi : i < vs.length) (hg : g.method = m) {rest : List Value} (hs : g.stack = .int x :: .int j :: .ref a :: rest) (hd : decode c.code g.pc = .ok (.iastore, 1)) :
    ∃ T' h', Stand p l e R s m args below meth c T' (locs ++ [⟨a, j.toNatClampNeg⟩]) cells slots ∧ T'.heap = h' ∧ Wr h h' a j.toNatClampNeg (.int x) ∧ Arv Z h' a kc .int z (vs.set i (.int x)) dv ∧ ∀ target, Steps p.tables e below (T'.setTop { g with pc := g.pc + 1, stack := rest }) target → Steps p.tables e below (T.setTop g) target := by
  obtain ⟨cl, Ar, q, Sz, Ng, Hs, Ft⟩ := V
  obtain ⟨T', h', X', e', W', st⟩ := stI X hx hZ eT Ar (j := j) (inb_of Sz hin) hg hs hd
  exact ⟨T', h', X', e', W', Arv.set Ar q Sz Ng Hs Ft rfl W' i hj hi, st⟩
theorem own_stB (X : Stand p l e R s m args below meth c T locs cells slots) (hx : p.tables.exec = Jvm.exec) (hZ : Z.Warmed39 s.vm) (eT : T.heap = h) (V : Arv Z h a kc .byte z vs dv) {j : Int32} {x : Int32} (hin : ¬ j < 0 ∧ j < z) (i : Nat) (hj : j.toNatClampNeg = i) (hi : i < vs.length) (hg : g.method = m) {rest : List Value} (hs : g.stack = .int x :: .int j :: .ref a :: rest) (hd : decode c.code g.pc = .ok (.bastore, 1)) :
    ∃ T' h', Stand p l e R s m args below meth c T' (locs ++ [⟨a, j.toNatClampNeg⟩]) cells slots ∧ T'.heap = h' ∧ Wr h h' a j.toNatClampNeg (.int (nar .byte x)) ∧ Arv Z h' a kc .byte z (vs.set i (.int (nar .byte x))) dv ∧ ∀ target, Steps p.tables e below (T'.setTop { g with pc := g.pc + 1, stack := rest }) target → Steps p.tables e below (T.setTop g) target := by
  obtain ⟨cl, Ar, q, Sz, Ng, Hs, Ft⟩ := V
  obtain ⟨T', h', X', e', W', st⟩ := stB X hx hZ eT Ar (j := j) (inb_of Sz hin) hg hs hd
  exact ⟨T', h', X', e', W', Arv.set Ar q Sz Ng Hs Ft (fits_nar_byte _) W' i hj hi, st⟩
theorem own_stC (X : Stand p l e R s m args below meth c T locs cells slots) (hx : p.tables.exec = Jvm.exec) (hZ : Z.Warmed39 s.vm) (eT : T.heap = h) (V : Arv Z h a kc .char z vs dv) {j : Int32} {x : Int32} (hin : ¬ j < 0 ∧ j < z) (i : Nat) (hj : j.toNatClampNeg = i) (hi : i < vs.length) (hg : g.method = m) {rest : List Value} (hs : g.stack = .int x :: .int j :: .ref a :: rest) (hd : decode c.code g.pc = .ok (.castore, 1)) :
    ∃ T' h', Stand p l e R s m args below meth c T' (locs ++ [⟨a, j.toNatClampNeg⟩]) cells slots ∧ T'.heap = h' ∧ Wr h h' a j.toNatClampNeg (.int (nar .char x)) ∧ Arv Z h' a kc .char z (vs.set i (.int (nar .char x))) dv ∧ ∀ target, Steps p.tables e below (T'.setTop { g with pc := g.pc + 1, stack := rest }) target → Steps p.tables e below (T.setTop g) target := by
  obtain ⟨cl, Ar, q, Sz, Ng, Hs, Ft⟩ := V
  obtain ⟨T', h', X', e', W', st⟩ := stC X hx hZ eT Ar (j := j) (inb_of Sz hin) hg hs hd
  exact ⟨T', h', X', e', W', Arv.set Ar q Sz Ng Hs Ft (fits_nar_char _) W' i hj hi, st⟩
theorem own_stJ (X : Stand p l e R s m args below meth c T locs cells slots) (hx : p.tables.exec = Jvm.exec) (hZ : Z.Warmed39 s.vm) (eT : T.heap = h) (V : Arv Z h a kc .long z vs dv) {j : Int32} {x : Int64} (hin : ¬ j < 0 ∧ j < z) (i : Nat) (hj : j.toNatClampNeg = i) (hi : i < vs.length) (hg : g.method = m) {rest : List Value} (hs : g.stack = .long x :: .int j :: .ref a :: rest) (hd : decode c.code g.pc = .ok (.lastore, 1)) :
    ∃ T' h', Stand p l e R s m args below meth c T' (locs ++ [⟨a, j.toNatClampNeg⟩]) cells slots ∧ T'.heap = h' ∧ Wr h h' a j.toNatClampNeg (.long x) ∧ Arv Z h' a kc .long z (vs.set i (.long x)) dv ∧ ∀ target, Steps p.tables e below (T'.setTop { g with pc := g.pc + 1, stack := rest }) target → Steps p.tables e below (T.setTop g) target := by
  obtain ⟨cl, Ar, q, Sz, Ng, Hs, Ft⟩ := V
  obtain ⟨T', h', X', e', W', st⟩ := stJ X hx hZ eT Ar (j := j) (inb_of Sz hin) hg hs hd
  exact ⟨T', h', X', e', W', Arv.set Ar q Sz Ng Hs Ft rfl W' i hj hi, st⟩
theorem own_stZ (X : Stand p l e R s m args below meth c T locs cells slots) (hx : p.tables.exec = Jvm.exec) (hZ : Z.Warmed39 s.vm) (eT : T.heap = h) (V : Arv Z h a kc .boolean z vs dv) {j : Int32} {x : Int32} (hin : ¬ j < 0 ∧ j < z) (i : Nat) (hj : j.toNatClampNeg = i) (hi : i < vs.length) (hg : g.method = m) {rest : List Value} (hs : g.stack = .int x :: .int j :: .ref a :: rest) (hd : decode c.code g.pc = .ok (.bastore, 1)) :
    ∃ T' h', Stand p l e R s m args below meth c T' (locs ++ [⟨a, j.toNatClampNeg⟩]) cells slots ∧ T'.heap = h' ∧ Wr h h' a j.toNatClampNeg (.int (nar .boolean x)) ∧ Arv Z h' a kc .boolean z (vs.set i (.int (nar .boolean x))) dv ∧ ∀ target, Steps p.tables e below (T'.setTop { g with pc := g.pc + 1, stack := rest }) target → Steps p.tables e below (T.setTop g) target := by
  obtain ⟨cl, Ar, q, Sz, Ng, Hs, Ft⟩ := V
  obtain ⟨T', h', X', e', W', st⟩ := stZ X hx hZ eT Ar (j := j) (inb_of Sz hin) hg hs hd
  exact ⟨T', h', X', e', W', Arv.set Ar q Sz Ng Hs Ft (fits_nar_bool _) W' i hj hi, st⟩
theorem own_stR (X : Stand p l e R s m args below meth c T locs cells slots) (hx : p.tables.exec = Jvm.exec) (hZ : Z.Warmed39 s.vm) (eT : T.heap = h) (V : Arv Z h a kc ty z vs dv) {j : Int32} {x : Value} (hin : ¬ j < 0 ∧ j < z) (hty : ty.isReference = true) (hf : fits ty x = true) (F : ∀ cl, Arr Z h a cl ty → cl.cls = kc → Sto Z h a x) (i : Nat) (hj : j.toNatClampNeg = i) (hi : i < vs.length) (hg : g.method = m) {rest : List Value} (hs : g.stack = x :: .int j :: .ref a :: rest) (hd : decode c.code g.pc = .ok (.aastore, 1)) :
    ∃ T' h', Stand p l e R s m args below meth c T' (locs ++ [⟨a, j.toNatClampNeg⟩]) cells slots ∧ T'.heap = h' ∧ Wr h h' a j.toNatClampNeg x ∧ Arv Z h' a kc ty z (vs.set i x) dv ∧ ∀ target, Steps p.tables e below (T'.setTop { g with pc := g.pc + 1, stack := rest }) target → Steps p.tables e below (T.setTop g) target := by
  obtain ⟨cl, Ar, q, Sz, Ng, Hs, Ft⟩ := V
  obtain ⟨T', h', X', e', W', st⟩ := stR X hx hZ eT Ar (j := j) (inb_of Sz hin) hty (F cl Ar q) hg hs hd
  exact ⟨T', h', X', e', W', Arv.set Ar q Sz Ng Hs Ft hf W' i hj hi, st⟩
end Arr
section Dbl
open Jvm.Free.XS
variable {tb : Tables} [Ours tb] {target : State} {g : JFrame}
theorem own_dloadN (h : At T m c below) (hx : tb.exec = Jvm.exec) (hg : g.method = m) {k : Fin 4} {v : UInt64} (hd : decode c.code g.pc = .ok (.dload_n k, 1)) (hl : g.locals[k.val]? = some (.val (.double v))) (hr : Steps tb e below (T.setTop { g with pc := g.pc + 1, stack := .double v :: g.stack }) target) : Steps tb e below (T.setTop g) target := by
  subst hg
  jvm_step h [h.top, hx, hd, hl]
  exact hr
theorem own_dload (h : At T m c below) (hx : tb.exec = Jvm.exec) (hg : g.method = m) {k : Nat} {v : UInt64} (hd : decode c.code g.pc = .ok (.dload k, 2)) (hl : g.locals[k]? = some (.val (.double v))) (hr : Steps tb e below (T.setTop { g with pc := g.pc + 2, stack := .double v :: g.stack }) target) : Steps tb e below (T.setTop g) target := by
  subst hg
  jvm_step h [h.top, hx, hd, hl]
  exact hr
theorem own_i2d (h : At T m c below) (hx : tb.exec = Jvm.exec) (hg : g.method = m) {x : Int32} {rest : List Value} (hd : decode c.code g.pc = .ok (.i2d, 1)) (hs : g.stack = .int x :: rest) (hr : Steps tb e below (T.setTop { g with pc := g.pc + 1, stack := .double (FP.i2d x) :: rest }) target) : Steps tb e below (T.setTop g) target := by
  subst hg
  jvm_step h [h.top, hx, hd, hs]
  exact hr
theorem own_dconst0 (h : At T m c below) (hx : tb.exec = Jvm.exec) (hg : g.method = m) (hd : decode c.code g.pc = .ok (.dconst 0, 1)) (hr : Steps tb e below (T.setTop { g with pc := g.pc + 1, stack := .double FP.dconst0 :: g.stack }) target) : Steps tb e below (T.setTop g) target := by
  subst hg
  jvm_step h [h.top, hx, hd]
  exact hr
theorem own_dconst1 (h : At T m c below) (hx : tb.exec = Jvm.exec) (hg : g.method = m) (hd : decode c.code g.pc = .ok (.dconst 1, 1)) (hr : Steps tb e below (T.setTop { g with pc := g.pc + 1, stack := .double FP.dconst1 :: g.stack }) target) : Steps tb e below (T.setTop g) target := by
  subst hg
  jvm_step h [h.top, hx, hd]
  exact hr
theorem own_pop2D (h : At T m c below) (hx : tb.exec = Jvm.exec) (hg : g.method = m) {v : UInt64} {rest : List Value} (hd : decode c.code g.pc = .ok (.pop2, 1)) (hs : g.stack = .double v :: rest) (hr : Steps tb e below (T.setTop { g with pc := g.pc + 1, stack := rest }) target) : Steps tb e below (T.setTop g) target := by
  subst hg
  jvm_step h [h.top, hx, hd, hs, Value.category]
  exact hr
theorem own_lsw (h : At T m c below) (hx : tb.exec = Jvm.exec) (hg : g.method = m) {dflt : Int} {prs : Array (Int × Int)} {len : Nat} {o : Int} {pc0 pc' : Nat} (hpc : g.pc = pc0) (hd : decode c.code g.pc = .ok (.lookupswitch dflt prs, len)) {i : Int32} {rest : List Value} (hs : g.stack = .int i :: rest) (ho : lookupswitch.offset prs.toList dflt i.toInt = o) (h0 : 0 ≤ (pc0 : Int) + o) (hp : ((pc0 : Int) + o).toNat = pc') (hk : (prs.toList.zip prs.toList.tail).all (fun q => decide (q.1.1 < q.2.1)) = true)
    (hr : Steps tb e below (T.setTop { g with pc := pc', stack := rest }) target) : Steps tb e below (T.setTop g) target := by
  subst hg hpc hp
  jvm_step h [h.top, hx, hd, hs, ho, h0, lookupswitch.wp_chain]
  exact ⟨fun a b a' b' hm => by simpa using List.all_eq_true.mp hk _ hm, hr⟩
theorem own_dcmp (h : At T m c below) (hx : tb.exec = Jvm.exec) (hg : g.method = m) {x y : UInt64} {rest : List Value} {op : CmpOp} {o : Ordering} (hd : decode c.code g.pc = .ok (.dcmp op, 1)) (hs : g.stack = .double y :: .double x :: rest) (hc : FP.dcmp x y = some o) (hr : Steps tb e below (T.setTop { g with pc := g.pc + 1, stack := .int (FP.cmpInt 0 (some o)) :: rest }) target) : Steps tb e below (T.setTop g) target := by
  subst hg
  cases o <;> (jvm_step h [h.top, hx, hd, hs, hc, cmpValue]; exact hr)
end Dbl
theorem own_ne0 {s : State} {args : Array Value} {t : Term} {x : Int32} (ev : t.eval args s none [] s = some (.int x)) (h : (Cond.not (Cond.eq t (.int (0 : Int32)))).before args s = true) : ¬ (x = (0 : Int32)) := fun q => by
  subst q
  have h' := Cond.before_iff.mp h
  have e2 : (Term.int (0 : Int32)).eval args s none [] s = some (.int (0 : Int32)) := rfl
  simp only [Cond.value, ev, e2] at h'
  simp at h'
def own_sel {α : Type} (P : Prop) [Decidable P] (x y : α) : α := if P then x else y
theorem own_sel_t {α : Type} {P : Prop} [Decidable P] {x y : α} (h : P) : own_sel P x y = x := if_pos h
theorem own_sel_f {α : Type} {P : Prop} [Decidable P] {x y : α} (h : ¬ P) : own_sel P x y = y := if_neg h
def own_b2i (P : Prop) [Decidable P] : Int32 := if P then 1 else 0
theorem own_b2i_1 {P : Prop} [Decidable P] (h : P) : own_b2i P = 1 := by rw [own_b2i, if_pos h]
theorem own_b2i_congr {P R : Prop} [Decidable P] [Decidable R] (h : P ↔ R) : own_b2i P = own_b2i R := by
  by_cases q : P
  · rw [own_b2i_1 q, own_b2i_1 (h.mp q)]
  · rw [own_b2i, own_b2i, if_neg q, if_neg (fun r => q (h.mpr r))]
theorem own_b2i_t {P : Prop} [Decidable P] (h : P) : ¬ own_b2i P = 0 := by rw [own_b2i, if_pos h]; decide
theorem own_b2i_f {P : Prop} [Decidable P] (h : ¬ P) : own_b2i P = 0 := by rw [own_b2i, if_neg h]
theorem own_sta_keep {C n d : String} {v : Value} (F : Sta Z h C n d v) (K : Keep h h' ws) (q : ∀ st ∈ ws, ∀ c, h[st]? = some c → c.vm.isStatics = false) : Sta Z h' C n d v := by
  obtain ⟨cf, i, k, f, st, cell, h1, h2, h3, h4, h5, h6, h7⟩ := F
  exact ⟨cf, i, k, f, st, cell, h1, h2, h3, h4, K.2.1 st cell h5 (fun z => by rw [q st z cell h5] at h6; cases h6), h6, h7⟩
theorem own_ws0 : ∀ st ∈ ([] : List Addr), ∀ c, h[st]? = some c → c.vm.isStatics = false := fun _ q => nomatch q
theorem own_wsE {a : Addr} {C : String} (F : Exa Z h a C) (q : ∀ st ∈ ws, ∀ c, h[st]? = some c → c.vm.isStatics = false) : ∀ st ∈ a :: ws, ∀ c, h[st]? = some c → c.vm.isStatics = false := fun st hs c hc => by
  rcases List.mem_cons.mp hs with rfl | hs
  · obtain ⟨cell, k, h1, -, -, h4, -⟩ := F; cases h1.symm.trans hc; exact h4
  · exact q st hs c hc
theorem own_wsF {a : Addr} {C n d : String} {v : Value} (F : Fld Z h a C n d v) (q : ∀ st ∈ ws, ∀ c, h[st]? = some c → c.vm.isStatics = false) : ∀ st ∈ a :: ws, ∀ c, h[st]? = some c → c.vm.isStatics = false := fun st hs c hc => by
  rcases List.mem_cons.mp hs with rfl | hs
  · exact old_plain F c hc
  · exact q st hs c hc
theorem own_wsV {a : Addr} {k : ClassId} {ty : FieldType} {z : Int32} {vs : List Value} {dv : Value} (F : Arv Z h a k ty z vs dv) (q : ∀ st ∈ ws, ∀ c, h[st]? = some c → c.vm.isStatics = false) : ∀ st ∈ a :: ws, ∀ c, h[st]? = some c → c.vm.isStatics = false := fun st hs c hc => by
  rcases List.mem_cons.mp hs with rfl | hs
  · obtain ⟨cl, A, -⟩ := F; cases A.1.symm.trans hc; exact A.plain
  · exact q st hs c hc
theorem own_kx (K : Keep h h' []) : Ext h h' := ⟨K.1, fun a c q => K.2.1 a c q nin0⟩
theorem own_ins_keep {a : Addr} {C : String} {bo : Bool} (F : Ins Z h a C bo) (K : Keep h h' ws) : Ins Z h' a C bo := by
  obtain ⟨cell, cT, h1, h2, h3⟩ := F
  obtain ⟨c', q, r1, r2, r3⟩ := K.2.2 a cell h1
  exact ⟨c', cT, q, h2, by rw [r1, r2]; exact h3⟩
end Own
theorem ow8 {Z : State} {a0 : Array Value} (hw : ∀ d ∈ tables_1, d.before a0 Z = true) : (Jvm.Cond.methodLink "com/example/feedback/feedback/index/Postings" (1 : Nat) ({ cls := "java/lang/Object", name := "<init>", desc := "()V" } : Jvm.MethodName)).before a0 Z = true := hw _ (List.mem_of_getElem? (i := 8) rfl)
theorem ow10 {Z : State} {a0 : Array Value} (hw : ∀ d ∈ tables_1, d.before a0 Z = true) : (Jvm.Cond.code ({ cls := "java/lang/Object", name := "<init>", desc := "()V" } : Jvm.MethodName) object_method_1_code (1 : Nat) (Option.none : Option Jvm.ClassFile.FieldType)).before a0 Z = true := hw _ (List.mem_of_getElem? (i := 10) rfl)
theorem ow9 {Z : State} {a0 : Array Value} (hw : ∀ d ∈ tables_1, d.before a0 Z = true) : (Jvm.Cond.instanceMethod ({ cls := "java/lang/Object", name := "<init>", desc := "()V" } : Jvm.MethodName)).before a0 Z = true := hw _ (List.mem_of_getElem? (i := 9) rfl)
theorem ow11 {Z : State} {a0 : Array Value} (hw : ∀ d ∈ tables_1, d.before a0 Z = true) : (Jvm.Cond.fieldLink "com/example/feedback/feedback/index/Postings" (7 : Nat) "com/example/feedback/feedback/index/Postings" "documents" "[I").before a0 Z = true := hw _ (List.mem_of_getElem? (i := 11) rfl)
theorem ow12 {Z : State} {a0 : Array Value} (hw : ∀ d ∈ tables_1, d.before a0 Z = true) : (Jvm.Cond.laysFinal "com/example/feedback/feedback/index/Postings" "com/example/feedback/feedback/index/Postings" "documents" "[I").before a0 Z = true := hw _ (List.mem_of_getElem? (i := 12) rfl)
theorem ow3 {Z : State} {a0 : Array Value} (hw : ∀ d ∈ tables_1, d.before a0 Z = true) : (Jvm.Cond.instantiable "com/example/feedback/feedback/index/Postings" (3 : Nat)).before a0 Z = true := hw _ (List.mem_of_getElem? (i := 3) rfl)
theorem ow13 {Z : State} {a0 : Array Value} (hw : ∀ d ∈ tables_1, d.before a0 Z = true) : (Jvm.Cond.fieldLink "com/example/feedback/feedback/index/Postings" (13 : Nat) "com/example/feedback/feedback/index/Postings" "positions" "[I").before a0 Z = true := hw _ (List.mem_of_getElem? (i := 13) rfl)
theorem ow14 {Z : State} {a0 : Array Value} (hw : ∀ d ∈ tables_1, d.before a0 Z = true) : (Jvm.Cond.laysFinal "com/example/feedback/feedback/index/Postings" "com/example/feedback/feedback/index/Postings" "positions" "[I").before a0 Z = true := hw _ (List.mem_of_getElem? (i := 14) rfl)
theorem ow1 {Z : State} {a0 : Array Value} (hw : ∀ d ∈ tables_1, d.before a0 Z = true) : (Jvm.Cond.arrayClass Jvm.ClassFile.FieldType.int).before a0 Z = true := hw _ (List.mem_of_getElem? (i := 1) rfl)
theorem ow15 {Z : State} {a0 : Array Value} (hw : ∀ d ∈ tables_1, d.before a0 Z = true) : (Jvm.Cond.fieldLink "com/example/feedback/feedback/index/Postings" (16 : Nat) "com/example/feedback/feedback/index/Postings" "positionStarts" "[I").before a0 Z = true := hw _ (List.mem_of_getElem? (i := 15) rfl)
theorem ow16 {Z : State} {a0 : Array Value} (hw : ∀ d ∈ tables_1, d.before a0 Z = true) : (Jvm.Cond.laysFinal "com/example/feedback/feedback/index/Postings" "com/example/feedback/feedback/index/Postings" "positionStarts" "[I").before a0 Z = true := hw _ (List.mem_of_getElem? (i := 16) rfl)
abbrev mn0 : MethodName := ⟨"com/example/feedback/feedback/index/Postings", "<init>", "([I[I[I)V"⟩
abbrev mn1 : MethodName := ⟨"com/example/feedback/feedback/index/Postings", "size", "()I"⟩
abbrev mn2 : MethodName := ⟨"com/example/feedback/feedback/index/Postings", "frequency", "(I)I"⟩
theorem ow0 {Z : State} {a0 : Array Value} (hw : ∀ d ∈ tables_1, d.before a0 Z = true) : (Jvm.Cond.constant "com/example/feedback/feedback/index/PostingsFrequencyPinLaw" (7 : Nat) (65535 : Int32)).before a0 Z = true := hw _ (List.mem_of_getElem? (i := 0) rfl)
theorem ow2 {Z : State} {a0 : Array Value} (hw : ∀ d ∈ tables_1, d.before a0 Z = true) : (Jvm.Cond.classLink "com/example/feedback/feedback/index/PostingsFrequencyPinLaw" (8 : Nat) "com/example/feedback/feedback/index/Postings").before a0 Z = true := hw _ (List.mem_of_getElem? (i := 2) rfl)
theorem ow4 {Z : State} {a0 : Array Value} (hw : ∀ d ∈ tables_1, d.before a0 Z = true) : (Jvm.Cond.initialized "com/example/feedback/feedback/index/Postings").before a0 Z = true := hw _ (List.mem_of_getElem? (i := 4) rfl)
theorem ow5 {Z : State} {a0 : Array Value} (hw : ∀ d ∈ tables_1, d.before a0 Z = true) : (Jvm.Cond.methodLink "com/example/feedback/feedback/index/PostingsFrequencyPinLaw" (10 : Nat) ({ cls := "com/example/feedback/feedback/index/Postings", name := "<init>", desc := "([I[I[I)V" } : Jvm.MethodName)).before a0 Z = true := hw _ (List.mem_of_getElem? (i := 5) rfl)
theorem ow7 {Z : State} {a0 : Array Value} (hw : ∀ d ∈ tables_1, d.before a0 Z = true) : (Jvm.Cond.code ({ cls := "com/example/feedback/feedback/index/Postings", name := "<init>", desc := "([I[I[I)V" } : Jvm.MethodName) prog_32_method_1_code (5 : Nat) (Option.none : Option Jvm.ClassFile.FieldType)).before a0 Z = true := hw _ (List.mem_of_getElem? (i := 7) rfl)
theorem ow6 {Z : State} {a0 : Array Value} (hw : ∀ d ∈ tables_1, d.before a0 Z = true) : (Jvm.Cond.instanceMethod ({ cls := "com/example/feedback/feedback/index/Postings", name := "<init>", desc := "([I[I[I)V" } : Jvm.MethodName)).before a0 Z = true := hw _ (List.mem_of_getElem? (i := 6) rfl)
theorem ow17 {Z : State} {a0 : Array Value} (hw : ∀ d ∈ tables_1, d.before a0 Z = true) : (Jvm.Cond.methodLink "com/example/feedback/feedback/index/PostingsFrequencyPinLaw" (13 : Nat) ({ cls := "com/example/feedback/feedback/index/Postings", name := "size", desc := "()I" } : Jvm.MethodName)).before a0 Z = true := hw _ (List.mem_of_getElem? (i := 17) rfl)
theorem ow21 {Z : State} {a0 : Array Value} (hw : ∀ d ∈ tables_1, d.before a0 Z = true) : (Jvm.Cond.code ({ cls := "com/example/feedback/feedback/index/Postings", name := "size", desc := "()I" } : Jvm.MethodName) prog_32_method_2_code (1 : Nat) (Option.some Jvm.ClassFile.FieldType.int)).before a0 Z = true := hw _ (List.mem_of_getElem? (i := 21) rfl)
theorem ow20 {Z : State} {a0 : Array Value} (hw : ∀ d ∈ tables_1, d.before a0 Z = true) : (Jvm.Cond.selects "com/example/feedback/feedback/index/Postings" ({ cls := "com/example/feedback/feedback/index/Postings", name := "size", desc := "()I" } : Jvm.MethodName) ({ cls := "com/example/feedback/feedback/index/Postings", name := "size", desc := "()I" } : Jvm.MethodName)).before a0 Z = true := hw _ (List.mem_of_getElem? (i := 20) rfl)
theorem ow18 {Z : State} {a0 : Array Value} (hw : ∀ d ∈ tables_1, d.before a0 Z = true) : (Jvm.Cond.declares ({ cls := "com/example/feedback/feedback/index/Postings", name := "size", desc := "()I" } : Jvm.MethodName)).before a0 Z = true := hw _ (List.mem_of_getElem? (i := 18) rfl)
theorem ow19 {Z : State} {a0 : Array Value} (hw : ∀ d ∈ tables_1, d.before a0 Z = true) : (Jvm.Cond.instanceMethod ({ cls := "com/example/feedback/feedback/index/Postings", name := "size", desc := "()I" } : Jvm.MethodName)).before a0 Z = true := hw _ (List.mem_of_getElem? (i := 19) rfl)
theorem ow22 {Z : State} {a0 : Array Value} (hw : ∀ d ∈ tables_1, d.before a0 Z = true) : (Jvm.Cond.methodLink "com/example/feedback/feedback/index/PostingsFrequencyPinLaw" (17 : Nat) ({ cls := "com/example/feedback/feedback/index/Postings", name := "frequency", desc := "(I)I" } : Jvm.MethodName)).before a0 Z = true := hw _ (List.mem_of_getElem? (i := 22) rfl)
theorem ow26 {Z : State} {a0 : Array Value} (hw : ∀ d ∈ tables_1, d.before a0 Z = true) : (Jvm.Cond.code ({ cls := "com/example/feedback/feedback/index/Postings", name := "frequency", desc := "(I)I" } : Jvm.MethodName) prog_32_method_4_code (2 : Nat) (Option.some Jvm.ClassFile.FieldType.int)).before a0 Z = true := hw _ (List.mem_of_getElem? (i := 26) rfl)
theorem ow25 {Z : State} {a0 : Array Value} (hw : ∀ d ∈ tables_1, d.before a0 Z = true) : (Jvm.Cond.selects "com/example/feedback/feedback/index/Postings" ({ cls := "com/example/feedback/feedback/index/Postings", name := "frequency", desc := "(I)I" } : Jvm.MethodName) ({ cls := "com/example/feedback/feedback/index/Postings", name := "frequency", desc := "(I)I" } : Jvm.MethodName)).before a0 Z = true := hw _ (List.mem_of_getElem? (i := 25) rfl)
theorem ow23 {Z : State} {a0 : Array Value} (hw : ∀ d ∈ tables_1, d.before a0 Z = true) : (Jvm.Cond.declares ({ cls := "com/example/feedback/feedback/index/Postings", name := "frequency", desc := "(I)I" } : Jvm.MethodName)).before a0 Z = true := hw _ (List.mem_of_getElem? (i := 23) rfl)
theorem ow24 {Z : State} {a0 : Array Value} (hw : ∀ d ∈ tables_1, d.before a0 Z = true) : (Jvm.Cond.instanceMethod ({ cls := "com/example/feedback/feedback/index/Postings", name := "frequency", desc := "(I)I" } : Jvm.MethodName)).before a0 Z = true := hw _ (List.mem_of_getElem? (i := 24) rfl)
theorem own_addI {a b : Int32} (h1 : -2147483648 ≤ a.toInt + b.toInt) (h2 : a.toInt + b.toInt < 2147483648) : (a + b).toInt = a.toInt + b.toInt := by
  rw [Int32.toInt_add]; exact Int.bmod_eq_of_le (by omega) (by omega)
theorem own_subI {a b : Int32} (h1 : -2147483648 ≤ a.toInt - b.toInt) (h2 : a.toInt - b.toInt < 2147483648) : (a - b).toInt = a.toInt - b.toInt := by
  rw [Int32.toInt_sub]; exact Int.bmod_eq_of_le (by omega) (by omega)
theorem own_mulI {a b : Int32} (h1 : -2147483648 ≤ a.toInt * b.toInt) (h2 : a.toInt * b.toInt < 2147483648) : (a * b).toInt = a.toInt * b.toInt := by
  rw [Int32.toInt_mul]; exact Int.bmod_eq_of_le (by omega) (by omega)
theorem own_nat32 (x : Int32) (h : 0 ≤ x.toInt) : x.toInt = (x.toBitVec.toNat : Int) := by
  have e : x.toInt = x.toBitVec.toInt := rfl
  rw [BitVec.toInt_eq_toNat_cond] at e
  have := x.toBitVec.isLt
  split at e <;> omega
theorem own_maskI (x m : Int32) (h : 0 ≤ m.toInt) : 0 ≤ (x &&& m).toInt ∧ (x &&& m).toInt ≤ m.toInt := by
  have hm := own_nat32 m h
  have h1 : (x &&& m).toBitVec.toNat ≤ m.toBitVec.toNat := by rw [Int32.toBitVec_and, BitVec.toNat_and]; exact Nat.and_le_right
  have e : (x &&& m).toInt = (x &&& m).toBitVec.toInt := rfl
  have hl := Int32.toInt_lt m
  rw [e, BitVec.toInt_eq_toNat_cond]
  split <;> omega
theorem own_ltI {a b : Int32} : a < b ↔ a.toInt < b.toInt := Int32.lt_iff_toInt_lt
theorem own_f (x : Int32) : 1 ≤ ((x &&& (255 : Int32)) + (1 : Int32)).toInt ∧ ((x &&& (255 : Int32)) + (1 : Int32)).toInt ≤ 256 := by
  have h := own_maskI x 255 (by decide)
  have e1 : (1 : Int32).toInt = 1 := rfl
  have e2 : (255 : Int32).toInt = 255 := rfl
  have := own_addI (a := x &&& 255) (b := 1) (by omega) (by omega)
  omega
theorem own_sum {a b c : Int32} (ha : 1 ≤ a.toInt ∧ a.toInt ≤ 256) (hb : 1 ≤ b.toInt ∧ b.toInt ≤ 256) (hc : 1 ≤ c.toInt ∧ c.toInt ≤ 256) : ¬ ((a + b) + c) < 0 ∧ ((a + b) + c).toNatClampNeg ≤ 768 := by
  have e0 : (0 : Int32).toInt = 0 := rfl
  have h1 := own_addI (a := a) (b := b) (by omega) (by omega)
  have h2 := own_addI (a := a + b) (b := c) (by omega) (by omega)
  rw [own_ltI, Int32.toNatClampNeg]
  omega
theorem own_g0 (a : Int32) : ((0 : Int32) + a) - (0 : Int32) = a := by grind
theorem own_g1 (a b : Int32) : (((0 : Int32) + a) + b) - ((0 : Int32) + a) = b := by grind
theorem own_g2 (a b c : Int32) : ((((0 : Int32) + a) + b) + c) - (((0 : Int32) + a) + b) = c := by grind
theorem d1_0 : decode prog_32_method_1_code 0 = .ok (.aload_n 0, 1) := by decide +kernel
theorem d1_1 : decode prog_32_method_1_code 1 = .ok (.invokespecial 1, 3) := by decide +kernel
theorem d1_4 : decode prog_32_method_1_code 4 = .ok (.aload_n 0, 1) := by decide +kernel
theorem d1_5 : decode prog_32_method_1_code 5 = .ok (.aload_n 1, 1) := by decide +kernel
theorem d1_6 : decode prog_32_method_1_code 6 = .ok (.putfield 7, 3) := by decide +kernel
theorem d1_9 : decode prog_32_method_1_code 9 = .ok (.aload_n 0, 1) := by decide +kernel
theorem d1_10 : decode prog_32_method_1_code 10 = .ok (.aload_n 3, 1) := by decide +kernel
theorem d1_11 : decode prog_32_method_1_code 11 = .ok (.putfield 13, 3) := by decide +kernel
theorem d1_14 : decode prog_32_method_1_code 14 = .ok (.aload_n 0, 1) := by decide +kernel
theorem d1_15 : decode prog_32_method_1_code 15 = .ok (.aload_n 1, 1) := by decide +kernel
theorem d1_16 : decode prog_32_method_1_code 16 = .ok (.arraylength, 1) := by decide +kernel
theorem d1_17 : decode prog_32_method_1_code 17 = .ok (.iconst 1, 1) := by decide +kernel
theorem d1_18 : decode prog_32_method_1_code 18 = .ok (.iadd, 1) := by decide +kernel
theorem d1_19 : decode prog_32_method_1_code 19 = .ok (.newarray .int, 2) := by decide +kernel
theorem d1_21 : decode prog_32_method_1_code 21 = .ok (.putfield 16, 3) := by decide +kernel
theorem d1_24 : decode prog_32_method_1_code 24 = .ok (.iconst 0, 1) := by decide +kernel
theorem d1_25 : decode prog_32_method_1_code 25 = .ok (.istore 4, 2) := by decide +kernel
theorem d1_27 : decode prog_32_method_1_code 27 = .ok (.iload 4, 2) := by decide +kernel
theorem d1_29 : decode prog_32_method_1_code 29 = .ok (.aload_n 1, 1) := by decide +kernel
theorem d1_30 : decode prog_32_method_1_code 30 = .ok (.arraylength, 1) := by decide +kernel
theorem d1_31 : decode prog_32_method_1_code 31 = .ok (.if_icmp .ge 30, 3) := by decide +kernel
theorem d1_34 : decode prog_32_method_1_code 34 = .ok (.aload_n 0, 1) := by decide +kernel
theorem d1_35 : decode prog_32_method_1_code 35 = .ok (.getfield 16, 3) := by decide +kernel
theorem d1_38 : decode prog_32_method_1_code 38 = .ok (.iload 4, 2) := by decide +kernel
theorem d1_40 : decode prog_32_method_1_code 40 = .ok (.iconst 1, 1) := by decide +kernel
theorem d1_41 : decode prog_32_method_1_code 41 = .ok (.iadd, 1) := by decide +kernel
theorem d1_42 : decode prog_32_method_1_code 42 = .ok (.aload_n 0, 1) := by decide +kernel
theorem d1_43 : decode prog_32_method_1_code 43 = .ok (.getfield 16, 3) := by decide +kernel
theorem d1_46 : decode prog_32_method_1_code 46 = .ok (.iload 4, 2) := by decide +kernel
theorem d1_48 : decode prog_32_method_1_code 48 = .ok (.iaload, 1) := by decide +kernel
theorem d1_49 : decode prog_32_method_1_code 49 = .ok (.aload_n 2, 1) := by decide +kernel
theorem d1_50 : decode prog_32_method_1_code 50 = .ok (.iload 4, 2) := by decide +kernel
theorem d1_52 : decode prog_32_method_1_code 52 = .ok (.iaload, 1) := by decide +kernel
theorem d1_53 : decode prog_32_method_1_code 53 = .ok (.iadd, 1) := by decide +kernel
theorem d1_54 : decode prog_32_method_1_code 54 = .ok (.iastore, 1) := by decide +kernel
theorem d1_55 : decode prog_32_method_1_code 55 = .ok (.iinc 4 1, 3) := by decide +kernel
theorem d1_58 : decode prog_32_method_1_code 58 = .ok (.goto (-31), 3) := by decide +kernel
theorem d1_61 : decode prog_32_method_1_code 61 = .ok (.return_, 1) := by decide +kernel
theorem pn_0 : plainName "com/example/feedback/feedback/index/Postings" = true := by first | (simp [plainName, overriddenIn]; done) | decide +kernel
theorem ef_rm1 (m : MethodId) (y0 : Addr) (y1 : Addr) (y2 : Addr) (y3 : Addr) : entryFrame m #[(.ref y0), (.ref y1), (.ref y2), (.ref y3)] 5 = mkF m 0 #[.val (.ref y0), .val (.ref y1), .val (.ref y2), .val (.ref y3), .unset] [] := by first | (simp [entryFrame, mkF, argsToLocals, Value.category]; done) | rfl
def Q1 (Z : State) (y0 : Addr) (y1 : Addr) (y2 : Addr) (y3 : Addr) (u0 : Value) (u1 : Value) (u2 : Value) (kd : ClassId) (kf : ClassId) (d0 : Int32) (d1 : Int32) (d2 : Int32) (g0 : Int32) (g1 : Int32) (g2 : Int32) (h0 : Heap) (n0 : Nat) (v : Option Value) (h : Heap) (L : List Loc) : Prop := v = none ∧ Fr n0 L ∧ Keep h0 h [y0] ∧ Exa Z h y0 "com/example/feedback/feedback/index/Postings" ∧ Fld Z h y0 "com/example/feedback/feedback/index/Postings" "documents" "[I" (.ref y1) ∧ ∃ (b : Addr) (kb : ClassId), Fld Z h y0 "com/example/feedback/feedback/index/Postings" "positionStarts" "[I" (.ref b) ∧ Arv Z h b kb .int (4 : Int32) [(.int (0 : Int32)), (.int ((0 : Int32) + g0)), (.int (((0 : Int32) + g0) + g1)), (.int ((((0 : Int32) + g0) + g1) + g2))] (.int (0 : Int32))
set_option maxRecDepth 65536 in
set_option maxHeartbeats 40000000 in
theorem rm1 (l : Launch) (Z : State) (a0 : Array Value) (hw : ∀ d ∈ tables_1, d.before a0 Z = true) (ws : List Jvm.Cond) (y0 : Addr) (y1 : Addr) (y2 : Addr) (y3 : Addr) (u0 : Value) (u1 : Value) (u2 : Value) (kd : ClassId) (kf : ClassId) (d0 : Int32) (d1 : Int32) (d2 : Int32) (g0 : Int32) (g1 : Int32) (g2 : Int32) (h0 : Heap) (n0 : Nat) (Z0 : n0 ≤ h0.size) (E_y0 : Exa Z h0 y0 "com/example/feedback/feedback/index/Postings") (n_y0 : n0 ≤ y0) (F_0 : Fld Z h0 y0 "com/example/feedback/feedback/index/Postings" "documents" "[I" u0) (F_1 : Fld Z h0 y0 "com/example/feedback/feedback/index/Postings" "positions" "[I" u1) (F_2 : Fld Z h0 y0 "com/example/feedback/feedback/index/Postings" "positionStarts" "[I" u2) (V_y1 : Arv Z h0 y1 kd .int (3 : Int32) [(.int d0), (.int d1), (.int d2)] (.int (0 : Int32))) (V_y2 : Arv Z h0 y2 kf .int (3 : Int32) [(.int g0), (.int g1), (.int g2)] (.int (0 : Int32))) (ne1 : y1 ≠ y0) (ne2 : y2 ≠ y0) :
    MetFree l mn0 (head1 (Jvm.Cond.code mn0 prog_32_method_1_code 5 none :: ws) ({ frames := 1, cells := 1, slots := 4, locals := 12 } : Room)) (fun a U => a = #[(.ref y0), (.ref y1), (.ref y2), (.ref y3)] ∧ Z.Warmed39 U.vm ∧ U.heap = h0) (fun _ _ _ _ _ => True) (fun _ U o U' => ∃ v L, o = .returned v ∧ Q1 Z y0 y1 y2 y3 u0 u1 u2 kd kf d0 d1 d2 g0 g1 g2 h0 n0 v U'.heap L ∧ FrameEnd U o U' L ({ frames := 1, cells := 1, slots := 4, locals := 12 } : Room).cells ({ frames := 1, cells := 1, slots := 4, locals := 12 } : Room).slots) := by
  refine MetFree.of_bodySF (plainFor_of_name pn_0) hisR ?_
  intro p e s m args below meth c s₁ Bd hml0 hP hK
  obtain ⟨rfl, hZ, hh⟩ := hP
  have hx := Bd.exec
  have hby := Bd.bytes
  have hml : c.maxLocals = 5 := hml0
  have hown : s.vm.findClass "com/example/feedback/feedback/index/Postings" = some m.cls := findClass_of_methodNamed Bd.named
  have hnm := (name_of_methodNamed Bd.named Bd.method).1
  have X0 : Stand p l e ({ frames := 1, cells := 1, slots := 4, locals := 12 } : Room) s m #[(.ref y0), (.ref y1), (.ref y2), (.ref y3)] below meth c s₁ [] 0 0 := Stand.of_body Bd
  have e0 : s₁.heap = h0 := by rw [← hh, Bd.state]; rfl
  have N0 := Fr.nil n0
  show own_Ends p e below s (Q1 Z y0 y1 y2 y3 u0 u1 u2 kd kf d0 d1 d2 g0 g1 g2 h0 n0) _ _ s₁ _
  rw [ef_rm1 m y0 y1 y2 y3]
  refine own_go (T' := s₁) (f' := (mkF m 1 #[.val (.ref y0), .val (.ref y1), .val (.ref y2), .val (.ref y3), .unset] [(.ref y0)])) (fun _ k => XS.aloadN X0.here hx rfl (hb hby d1_0) rfl rfl k) ?_
  obtain ⟨T1, X1, e1, st1⟩ := initO X0 hx hZ hown (ow8 hw) (ow9 hw) (ow10 hw) e0 (g := (mkF m 1 #[.val (.ref y0), .val (.ref y1), .val (.ref y2), .val (.ref y3), .unset] [(.ref y0)])) rfl (by rw [hml]; rfl) rfl (hb hby d1_1) (by decide) (W := 0) (by show 2 * 0 + _ ≤ _; exact Nat.le_of_eq rfl) (by decide)
  refine own_go (T' := T1) (f' := (mkF m 6 #[.val (.ref y0), .val (.ref y1), .val (.ref y2), .val (.ref y3), .unset] [(.ref y1), (.ref y0)])) (fun _ k => st1 _ (XS.aloadN X1.here hx rfl (hb hby d1_4) rfl rfl (XS.aloadN X1.here hx rfl (hb hby d1_5) rfl rfl k))) ?_
  obtain ⟨T2, h2, X2, e2, W2, st2⟩ := putF X1 hx hZ hown (host := "") (Or.inl (ow11 hw)) Via.refl e1 F_0 E_y0 (Or.inr ⟨(ow12 hw), rfl, hnm⟩) (ow3 hw) (ty := (.array .int)) (by decide) rfl rfl (g := (mkF m 6 #[.val (.ref y0), .val (.ref y1), .val (.ref y2), .val (.ref y3), .unset] [(.ref y1), (.ref y0)])) rfl rfl (hb hby d1_6)
  have Fw2 := Fld.same W2 F_0
  have K2 : Keep h0 h2 [y0] := (Keep.refl h0 [y0]).wr W2 (Or.inl (List.mem_of_getElem? (i := 0) rfl))
  have N2 := Fr.snoc X2 N0 n_y0
  refine own_go (T' := T2) (f' := (mkF m 11 #[.val (.ref y0), .val (.ref y1), .val (.ref y2), .val (.ref y3), .unset] [(.ref y3), (.ref y0)])) (fun _ k => st2 _ (XS.aloadN X2.here hx rfl (hb hby d1_9) rfl rfl (XS.aloadN X2.here hx rfl (hb hby d1_10) rfl rfl k))) ?_
  obtain ⟨T3, h3, X3, e3, W3, st3⟩ := putF X2 hx hZ hown (host := "") (Or.inl (ow13 hw)) Via.refl e2 (F_1.other W2 (Or.inr (slot_ne (Or.inr (ow14 hw)) (Or.inr (ow12 hw)) (by decide) (t := (.array .int)) (t' := (.array .int)) (by decide) (by decide)))) (E_y0.wr W2) (Or.inr ⟨(ow14 hw), rfl, hnm⟩) (ow3 hw) (ty := (.array .int)) (by decide) rfl rfl (g := (mkF m 11 #[.val (.ref y0), .val (.ref y1), .val (.ref y2), .val (.ref y3), .unset] [(.ref y3), (.ref y0)])) rfl rfl (hb hby d1_11)
  have Fw3 := Fld.same W3 (F_1.other W2 (Or.inr (slot_ne (Or.inr (ow14 hw)) (Or.inr (ow12 hw)) (by decide) (t := (.array .int)) (t' := (.array .int)) (by decide) (by decide))))
  have K3 : Keep h0 h3 [y0] := K2.wr W3 (Or.inl (List.mem_of_getElem? (i := 0) rfl))
  have N3 := Fr.snoc X3 N2 n_y0
  refine own_go (T' := T3) (f' := (mkF m 19 #[.val (.ref y0), .val (.ref y1), .val (.ref y2), .val (.ref y3), .unset] [(.int (4 : Int32)), (.ref y0)])) (fun _ k => st3 _ (XS.aloadN X3.here hx rfl (hb hby d1_14) rfl rfl (XS.aloadN X3.here hx rfl (hb hby d1_15) rfl rfl (own_alen X3 hx hZ e3 ((V_y1.other W2 ne1).other W3 ne1) rfl rfl (hb hby d1_16) (XS.iconst X3.here hx rfl (hb hby d1_17) (XS.iadd X3.here hx rfl (hb hby d1_18) rfl k)))))) ?_
  obtain ⟨T4, h4, k4, X4, e4, E4, A4, st4⟩ := newP (aty := .int) X3 hx hZ (ow1 hw) e3 (g := (mkF m 19 #[.val (.ref y0), .val (.ref y1), .val (.ref y2), .val (.ref y3), .unset] [(.int (4 : Int32)), (.ref y0)])) rfl (hb hby d1_19) rfl (by decide) (cap := 4) (by decide) (by decide) (by decide) (by decide)
  obtain ⟨b4, g_b4⟩ : ∃ z, z = h3.size := ⟨_, rfl⟩
  have sg_b4 : h3.size ≤ b4 := Nat.le_of_eq g_b4.symm
  rw [← g_b4] at A4 st4
  have n_b4 : n0 ≤ b4 := Nat.le_trans (Nat.le_trans (Nat.le_trans Z0 (Keep.of_wr W2).1) (Keep.of_wr W3).1) (Nat.le_of_eq g_b4.symm)
  have sz_b4 : h0.size ≤ b4 := Nat.le_trans K3.1 (Nat.le_of_eq g_b4.symm)
  have K4 : Keep h0 h4 [y0] := K3.ext E4
  have V_b4 : Arv Z h4 b4 k4 .int (4 : Int32) [(.int (0 : Int32)), (.int (0 : Int32)), (.int (0 : Int32)), (.int (0 : Int32))] (.int (0 : Int32)) := (Arv.new A4 (by decide)).pad (pad_rep [] (.int (0 : Int32)) 4)
  refine own_go (T' := T4) (f' := (mkF m 21 #[.val (.ref y0), .val (.ref y1), .val (.ref y2), .val (.ref y3), .unset] [(.ref b4), (.ref y0)])) (fun _ k => st4 _ k) ?_
  obtain ⟨T5, h5, X5, e5, W5, st5⟩ := putF X4 hx hZ hown (host := "") (Or.inl (ow15 hw)) Via.refl e4 (((F_2.other W2 (Or.inr (slot_ne (Or.inr (ow16 hw)) (Or.inr (ow12 hw)) (by decide) (t := (.array .int)) (t' := (.array .int)) (by decide) (by decide)))).other W3 (Or.inr (slot_ne (Or.inr (ow16 hw)) (Or.inr (ow14 hw)) (by decide) (t := (.array .int)) (t' := (.array .int)) (by decide) (by decide)))).ext E4) (((E_y0.wr W2).wr W3).ext E4) (Or.inr ⟨(ow16 hw), rfl, hnm⟩) (ow3 hw) (ty := (.array .int)) (by decide) rfl rfl (g := (mkF m 21 #[.val (.ref y0), .val (.ref y1), .val (.ref y2), .val (.ref y3), .unset] [(.ref b4), (.ref y0)])) rfl rfl (hb hby d1_21)
  have Fw5 := Fld.same W5 (((F_2.other W2 (Or.inr (slot_ne (Or.inr (ow16 hw)) (Or.inr (ow12 hw)) (by decide) (t := (.array .int)) (t' := (.array .int)) (by decide) (by decide)))).other W3 (Or.inr (slot_ne (Or.inr (ow16 hw)) (Or.inr (ow14 hw)) (by decide) (t := (.array .int)) (t' := (.array .int)) (by decide) (by decide)))).ext E4)
  have K5 : Keep h0 h5 [y0] := K4.wr W5 (Or.inl (List.mem_of_getElem? (i := 0) rfl))
  have N5 := Fr.snoc X5 N3 n_y0
  refine own_go (T' := T5) (f' := (mkF m 31 #[.val (.ref y0), .val (.ref y1), .val (.ref y2), .val (.ref y3), .val (.int (0 : Int32))] [(.int (3 : Int32)), (.int (0 : Int32))])) (fun _ k => st5 _ (XS.iconst X5.here hx rfl (hb hby d1_24) (XS.istore X5.here hx rfl (hb hby d1_25) rfl (l' := #[.val (.ref y0), .val (.ref y1), .val (.ref y2), .val (.ref y3), .val (.int (0 : Int32))]) rfl (XS.iload X5.here hx rfl (hb hby d1_27) rfl (XS.aloadN X5.here hx rfl (hb hby d1_29) rfl rfl (own_alen X5 hx hZ e5 ((((V_y1.other W2 ne1).other W3 ne1).ext E4).other W5 ne1) rfl rfl (hb hby d1_30) k)))))) ?_
  refine own_go (T' := T5) (f' := (mkF m 35 #[.val (.ref y0), .val (.ref y1), .val (.ref y2), .val (.ref y3), .val (.int (0 : Int32))] [(.ref y0)])) (fun _ k => XS.icmpNo X5.here hx rfl (hb hby d1_31) rfl (tlt (by decide : ((0 : Int32) < (3 : Int32)))).2.1 (XS.aloadN X5.here hx rfl (hb hby d1_34) rfl rfl k)) ?_
  obtain ⟨T6, X6, e6, st6⟩ := getF X5 hx hZ hown (host := "") (Or.inl (ow15 hw)) Via.refl e5 Fw5 (g := (mkF m 35 #[.val (.ref y0), .val (.ref y1), .val (.ref y2), .val (.ref y3), .val (.int (0 : Int32))] [(.ref y0)])) rfl rfl (hb hby d1_35)
  refine own_go (T' := T6) (f' := (mkF m 43 #[.val (.ref y0), .val (.ref y1), .val (.ref y2), .val (.ref y3), .val (.int (0 : Int32))] [(.ref y0), (.int (1 : Int32)), (.ref b4)])) (fun _ k => st6 _ (XS.iload X6.here hx rfl (hb hby d1_38) rfl (XS.iconst X6.here hx rfl (hb hby d1_40) (XS.iadd X6.here hx rfl (hb hby d1_41) rfl (XS.aloadN X6.here hx rfl (hb hby d1_42) rfl rfl k))))) ?_
  obtain ⟨T7, X7, e7, st7⟩ := getF X6 hx hZ hown (host := "") (Or.inl (ow15 hw)) Via.refl e6 Fw5 (g := (mkF m 43 #[.val (.ref y0), .val (.ref y1), .val (.ref y2), .val (.ref y3), .val (.int (0 : Int32))] [(.ref y0), (.int (1 : Int32)), (.ref b4)])) rfl rfl (hb hby d1_43)
  refine own_go (T' := T7) (f' := (mkF m 53 #[.val (.ref y0), .val (.ref y1), .val (.ref y2), .val (.ref y3), .val (.int (0 : Int32))] [(.int g0), (.int (0 : Int32)), (.int (1 : Int32)), (.ref b4)])) (fun _ k => st7 _ (XS.iload X7.here hx rfl (hb hby d1_46) rfl (own_ldI X7 hx hZ e7 (V_b4.other W5 (Ne.symm (Nat.ne_of_lt (Nat.lt_of_lt_of_le (Nat.lt_of_lt_of_le (Nat.lt_of_lt_of_le E_y0.lt (Keep.of_wr W2).1) (Keep.of_wr W3).1) sg_b4)))) (j := (0 : Int32)) (x := (0 : Int32)) ⟨by decide, by decide⟩ rfl rfl rfl (hb hby d1_48) (XS.aloadN X7.here hx rfl (hb hby d1_49) rfl rfl (XS.iload X7.here hx rfl (hb hby d1_50) rfl (own_ldI X7 hx hZ e7 ((((V_y2.other W2 ne2).other W3 ne2).ext E4).other W5 ne2) (j := (0 : Int32)) (x := g0) ⟨by decide, by decide⟩ rfl rfl rfl (hb hby d1_52) k)))))) ?_
  refine own_go (T' := T7) (f' := (mkF m 54 #[.val (.ref y0), .val (.ref y1), .val (.ref y2), .val (.ref y3), .val (.int (0 : Int32))] [(.int ((0 : Int32) + g0)), (.int (1 : Int32)), (.ref b4)])) (fun _ k => XS.iadd X7.here hx rfl (hb hby d1_53) rfl k) ?_
  obtain ⟨T8, h8, X8, e8, W8, V8, st8⟩ := own_stI X7 hx hZ e7 (V_b4.other W5 (Ne.symm (Nat.ne_of_lt (Nat.lt_of_lt_of_le (Nat.lt_of_lt_of_le (Nat.lt_of_lt_of_le E_y0.lt (Keep.of_wr W2).1) (Keep.of_wr W3).1) sg_b4)))) (j := (1 : Int32)) ⟨by decide, by decide⟩ 1 rfl (Nat.le_of_ble_eq_true rfl) (g := (mkF m 54 #[.val (.ref y0), .val (.ref y1), .val (.ref y2), .val (.ref y3), .val (.int (0 : Int32))] [(.int ((0 : Int32) + g0)), (.int (1 : Int32)), (.ref b4)])) rfl rfl (hb hby d1_54)
  have K8 : Keep h0 h8 [y0] := K5.wr W8 (Or.inr sz_b4)
  have N8 := Fr.snoc X8 N5 n_b4
  refine own_go (T' := T8) (f' := (mkF m 31 #[.val (.ref y0), .val (.ref y1), .val (.ref y2), .val (.ref y3), .val (.int (1 : Int32))] [(.int (3 : Int32)), (.int (1 : Int32))])) (fun _ k => st8 _ (XS.iinc X8.here hx rfl (hb hby d1_55) rfl (l' := #[.val (.ref y0), .val (.ref y1), .val (.ref y2), .val (.ref y3), .val (.int (1 : Int32))]) rfl (XS.goto X8.here hx rfl (pc0 := 58) (pc' := 27) rfl (hb hby d1_58) (by decide) (by decide) (XS.iload X8.here hx rfl (hb hby d1_27) rfl (XS.aloadN X8.here hx rfl (hb hby d1_29) rfl rfl (own_alen X8 hx hZ e8 (((((V_y1.other W2 ne1).other W3 ne1).ext E4).other W5 ne1).other W8 (Nat.ne_of_lt (Nat.lt_of_lt_of_le (Nat.lt_of_lt_of_le (Nat.lt_of_lt_of_le V_y1.lt (Keep.of_wr W2).1) (Keep.of_wr W3).1) sg_b4))) rfl rfl (hb hby d1_30) k)))))) ?_
  refine own_go (T' := T8) (f' := (mkF m 35 #[.val (.ref y0), .val (.ref y1), .val (.ref y2), .val (.ref y3), .val (.int (1 : Int32))] [(.ref y0)])) (fun _ k => XS.icmpNo X8.here hx rfl (hb hby d1_31) rfl (tlt (by decide : ((1 : Int32) < (3 : Int32)))).2.1 (XS.aloadN X8.here hx rfl (hb hby d1_34) rfl rfl k)) ?_
  obtain ⟨T9, X9, e9, st9⟩ := getF X8 hx hZ hown (host := "") (Or.inl (ow15 hw)) Via.refl e8 (Fw5.other W8 (Or.inl (Nat.ne_of_lt (Nat.lt_of_lt_of_le (Nat.lt_of_lt_of_le (Nat.lt_of_lt_of_le E_y0.lt (Keep.of_wr W2).1) (Keep.of_wr W3).1) sg_b4)))) (g := (mkF m 35 #[.val (.ref y0), .val (.ref y1), .val (.ref y2), .val (.ref y3), .val (.int (1 : Int32))] [(.ref y0)])) rfl rfl (hb hby d1_35)
  refine own_go (T' := T9) (f' := (mkF m 43 #[.val (.ref y0), .val (.ref y1), .val (.ref y2), .val (.ref y3), .val (.int (1 : Int32))] [(.ref y0), (.int (2 : Int32)), (.ref b4)])) (fun _ k => st9 _ (XS.iload X9.here hx rfl (hb hby d1_38) rfl (XS.iconst X9.here hx rfl (hb hby d1_40) (XS.iadd X9.here hx rfl (hb hby d1_41) rfl (XS.aloadN X9.here hx rfl (hb hby d1_42) rfl rfl k))))) ?_
  obtain ⟨T10, X10, e10, st10⟩ := getF X9 hx hZ hown (host := "") (Or.inl (ow15 hw)) Via.refl e9 (Fw5.other W8 (Or.inl (Nat.ne_of_lt (Nat.lt_of_lt_of_le (Nat.lt_of_lt_of_le (Nat.lt_of_lt_of_le E_y0.lt (Keep.of_wr W2).1) (Keep.of_wr W3).1) sg_b4)))) (g := (mkF m 43 #[.val (.ref y0), .val (.ref y1), .val (.ref y2), .val (.ref y3), .val (.int (1 : Int32))] [(.ref y0), (.int (2 : Int32)), (.ref b4)])) rfl rfl (hb hby d1_43)
  refine own_go (T' := T10) (f' := (mkF m 53 #[.val (.ref y0), .val (.ref y1), .val (.ref y2), .val (.ref y3), .val (.int (1 : Int32))] [(.int g1), (.int ((0 : Int32) + g0)), (.int (2 : Int32)), (.ref b4)])) (fun _ k => st10 _ (XS.iload X10.here hx rfl (hb hby d1_46) rfl (own_ldI X10 hx hZ e10 V8 (j := (1 : Int32)) (x := ((0 : Int32) + g0)) ⟨by decide, by decide⟩ rfl rfl rfl (hb hby d1_48) (XS.aloadN X10.here hx rfl (hb hby d1_49) rfl rfl (XS.iload X10.here hx rfl (hb hby d1_50) rfl (own_ldI X10 hx hZ e10 (((((V_y2.other W2 ne2).other W3 ne2).ext E4).other W5 ne2).other W8 (Nat.ne_of_lt (Nat.lt_of_lt_of_le (Nat.lt_of_lt_of_le (Nat.lt_of_lt_of_le V_y2.lt (Keep.of_wr W2).1) (Keep.of_wr W3).1) sg_b4))) (j := (1 : Int32)) (x := g1) ⟨by decide, by decide⟩ rfl rfl rfl (hb hby d1_52) k)))))) ?_
  refine own_go (T' := T10) (f' := (mkF m 54 #[.val (.ref y0), .val (.ref y1), .val (.ref y2), .val (.ref y3), .val (.int (1 : Int32))] [(.int (((0 : Int32) + g0) + g1)), (.int (2 : Int32)), (.ref b4)])) (fun _ k => XS.iadd X10.here hx rfl (hb hby d1_53) rfl k) ?_
  obtain ⟨T11, h11, X11, e11, W11, V11, st11⟩ := own_stI X10 hx hZ e10 V8 (j := (2 : Int32)) ⟨by decide, by decide⟩ 2 rfl (Nat.le_of_ble_eq_true rfl) (g := (mkF m 54 #[.val (.ref y0), .val (.ref y1), .val (.ref y2), .val (.ref y3), .val (.int (1 : Int32))] [(.int (((0 : Int32) + g0) + g1)), (.int (2 : Int32)), (.ref b4)])) rfl rfl (hb hby d1_54)
  have K11 : Keep h0 h11 [y0] := K8.wr W11 (Or.inr sz_b4)
  have N11 := Fr.snoc X11 N8 n_b4
  refine own_go (T' := T11) (f' := (mkF m 31 #[.val (.ref y0), .val (.ref y1), .val (.ref y2), .val (.ref y3), .val (.int (2 : Int32))] [(.int (3 : Int32)), (.int (2 : Int32))])) (fun _ k => st11 _ (XS.iinc X11.here hx rfl (hb hby d1_55) rfl (l' := #[.val (.ref y0), .val (.ref y1), .val (.ref y2), .val (.ref y3), .val (.int (2 : Int32))]) rfl (XS.goto X11.here hx rfl (pc0 := 58) (pc' := 27) rfl (hb hby d1_58) (by decide) (by decide) (XS.iload X11.here hx rfl (hb hby d1_27) rfl (XS.aloadN X11.here hx rfl (hb hby d1_29) rfl rfl (own_alen X11 hx hZ e11 ((((((V_y1.other W2 ne1).other W3 ne1).ext E4).other W5 ne1).other W8 (Nat.ne_of_lt (Nat.lt_of_lt_of_le (Nat.lt_of_lt_of_le (Nat.lt_of_lt_of_le V_y1.lt (Keep.of_wr W2).1) (Keep.of_wr W3).1) sg_b4))).other W11 (Nat.ne_of_lt (Nat.lt_of_lt_of_le (Nat.lt_of_lt_of_le (Nat.lt_of_lt_of_le V_y1.lt (Keep.of_wr W2).1) (Keep.of_wr W3).1) sg_b4))) rfl rfl (hb hby d1_30) k)))))) ?_
  refine own_go (T' := T11) (f' := (mkF m 35 #[.val (.ref y0), .val (.ref y1), .val (.ref y2), .val (.ref y3), .val (.int (2 : Int32))] [(.ref y0)])) (fun _ k => XS.icmpNo X11.here hx rfl (hb hby d1_31) rfl (tlt (by decide : ((2 : Int32) < (3 : Int32)))).2.1 (XS.aloadN X11.here hx rfl (hb hby d1_34) rfl rfl k)) ?_
  obtain ⟨T12, X12, e12, st12⟩ := getF X11 hx hZ hown (host := "") (Or.inl (ow15 hw)) Via.refl e11 ((Fw5.other W8 (Or.inl (Nat.ne_of_lt (Nat.lt_of_lt_of_le (Nat.lt_of_lt_of_le (Nat.lt_of_lt_of_le E_y0.lt (Keep.of_wr W2).1) (Keep.of_wr W3).1) sg_b4)))).other W11 (Or.inl (Nat.ne_of_lt (Nat.lt_of_lt_of_le (Nat.lt_of_lt_of_le (Nat.lt_of_lt_of_le E_y0.lt (Keep.of_wr W2).1) (Keep.of_wr W3).1) sg_b4)))) (g := (mkF m 35 #[.val (.ref y0), .val (.ref y1), .val (.ref y2), .val (.ref y3), .val (.int (2 : Int32))] [(.ref y0)])) rfl rfl (hb hby d1_35)
  refine own_go (T' := T12) (f' := (mkF m 43 #[.val (.ref y0), .val (.ref y1), .val (.ref y2), .val (.ref y3), .val (.int (2 : Int32))] [(.ref y0), (.int (3 : Int32)), (.ref b4)])) (fun _ k => st12 _ (XS.iload X12.here hx rfl (hb hby d1_38) rfl (XS.iconst X12.here hx rfl (hb hby d1_40) (XS.iadd X12.here hx rfl (hb hby d1_41) rfl (XS.aloadN X12.here hx rfl (hb hby d1_42) rfl rfl k))))) ?_
  obtain ⟨T13, X13, e13, st13⟩ := getF X12 hx hZ hown (host := "") (Or.inl (ow15 hw)) Via.refl e12 ((Fw5.other W8 (Or.inl (Nat.ne_of_lt (Nat.lt_of_lt_of_le (Nat.lt_of_lt_of_le (Nat.lt_of_lt_of_le E_y0.lt (Keep.of_wr W2).1) (Keep.of_wr W3).1) sg_b4)))).other W11 (Or.inl (Nat.ne_of_lt (Nat.lt_of_lt_of_le (Nat.lt_of_lt_of_le (Nat.lt_of_lt_of_le E_y0.lt (Keep.of_wr W2).1) (Keep.of_wr W3).1) sg_b4)))) (g := (mkF m 43 #[.val (.ref y0), .val (.ref y1), .val (.ref y2), .val (.ref y3), .val (.int (2 : Int32))] [(.ref y0), (.int (3 : Int32)), (.ref b4)])) rfl rfl (hb hby d1_43)
  refine own_go (T' := T13) (f' := (mkF m 53 #[.val (.ref y0), .val (.ref y1), .val (.ref y2), .val (.ref y3), .val (.int (2 : Int32))] [(.int g2), (.int (((0 : Int32) + g0) + g1)), (.int (3 : Int32)), (.ref b4)])) (fun _ k => st13 _ (XS.iload X13.here hx rfl (hb hby d1_46) rfl (own_ldI X13 hx hZ e13 V11 (j := (2 : Int32)) (x := (((0 : Int32) + g0) + g1)) ⟨by decide, by decide⟩ rfl rfl rfl (hb hby d1_48) (XS.aloadN X13.here hx rfl (hb hby d1_49) rfl rfl (XS.iload X13.here hx rfl (hb hby d1_50) rfl (own_ldI X13 hx hZ e13 ((((((V_y2.other W2 ne2).other W3 ne2).ext E4).other W5 ne2).other W8 (Nat.ne_of_lt (Nat.lt_of_lt_of_le (Nat.lt_of_lt_of_le (Nat.lt_of_lt_of_le V_y2.lt (Keep.of_wr W2).1) (Keep.of_wr W3).1) sg_b4))).other W11 (Nat.ne_of_lt (Nat.lt_of_lt_of_le (Nat.lt_of_lt_of_le (Nat.lt_of_lt_of_le V_y2.lt (Keep.of_wr W2).1) (Keep.of_wr W3).1) sg_b4))) (j := (2 : Int32)) (x := g2) ⟨by decide, by decide⟩ rfl rfl rfl (hb hby d1_52) k)))))) ?_
  refine own_go (T' := T13) (f' := (mkF m 54 #[.val (.ref y0), .val (.ref y1), .val (.ref y2), .val (.ref y3), .val (.int (2 : Int32))] [(.int ((((0 : Int32) + g0) + g1) + g2)), (.int (3 : Int32)), (.ref b4)])) (fun _ k => XS.iadd X13.here hx rfl (hb hby d1_53) rfl k) ?_
  obtain ⟨T14, h14, X14, e14, W14, V14, st14⟩ := own_stI X13 hx hZ e13 V11 (j := (3 : Int32)) ⟨by decide, by decide⟩ 3 rfl (Nat.le_of_ble_eq_true rfl) (g := (mkF m 54 #[.val (.ref y0), .val (.ref y1), .val (.ref y2), .val (.ref y3), .val (.int (2 : Int32))] [(.int ((((0 : Int32) + g0) + g1) + g2)), (.int (3 : Int32)), (.ref b4)])) rfl rfl (hb hby d1_54)
  have K14 : Keep h0 h14 [y0] := K11.wr W14 (Or.inr sz_b4)
  have N14 := Fr.snoc X14 N11 n_b4
  refine own_go (T' := T14) (f' := (mkF m 31 #[.val (.ref y0), .val (.ref y1), .val (.ref y2), .val (.ref y3), .val (.int (3 : Int32))] [(.int (3 : Int32)), (.int (3 : Int32))])) (fun _ k => st14 _ (XS.iinc X14.here hx rfl (hb hby d1_55) rfl (l' := #[.val (.ref y0), .val (.ref y1), .val (.ref y2), .val (.ref y3), .val (.int (3 : Int32))]) rfl (XS.goto X14.here hx rfl (pc0 := 58) (pc' := 27) rfl (hb hby d1_58) (by decide) (by decide) (XS.iload X14.here hx rfl (hb hby d1_27) rfl (XS.aloadN X14.here hx rfl (hb hby d1_29) rfl rfl (own_alen X14 hx hZ e14 (((((((V_y1.other W2 ne1).other W3 ne1).ext E4).other W5 ne1).other W8 (Nat.ne_of_lt (Nat.lt_of_lt_of_le (Nat.lt_of_lt_of_le (Nat.lt_of_lt_of_le V_y1.lt (Keep.of_wr W2).1) (Keep.of_wr W3).1) sg_b4))).other W11 (Nat.ne_of_lt (Nat.lt_of_lt_of_le (Nat.lt_of_lt_of_le (Nat.lt_of_lt_of_le V_y1.lt (Keep.of_wr W2).1) (Keep.of_wr W3).1) sg_b4))).other W14 (Nat.ne_of_lt (Nat.lt_of_lt_of_le (Nat.lt_of_lt_of_le (Nat.lt_of_lt_of_le V_y1.lt (Keep.of_wr W2).1) (Keep.of_wr W3).1) sg_b4))) rfl rfl (hb hby d1_30) k)))))) ?_
  refine own_go (T' := T14) (f' := (mkF m 61 #[.val (.ref y0), .val (.ref y1), .val (.ref y2), .val (.ref y3), .val (.int (3 : Int32))] [])) (fun _ k => XS.icmpYes X14.here hx rfl (pc0 := 31) (pc' := 61) rfl (hb hby d1_31) rfl (flt (by decide : ¬ ((3 : Int32) < (3 : Int32)))).2.1 (by decide) (by decide) k) ?_
  refine own_ret X14 (v := none) (fun _ => rfl) Bd.notSynchronized (fun fs hr => X14.returnOut hx Bd.returns (hb hby d1_61) hr) ?_ (by decide) (by decide)
  show Q1 Z y0 y1 y2 y3 u0 u1 u2 kd kf d0 d1 d2 g0 g1 g2 h0 n0 _ T14.heap _
  rw [e14]
  exact ⟨rfl, N14, K14, (((((((E_y0.wr W2).wr W3).ext E4).wr W5).wr W8).wr W11).wr W14), ((((((Fw2.other W3 (Or.inr (slot_ne (Or.inr (ow12 hw)) (Or.inr (ow14 hw)) (by decide) (t := (.array .int)) (t' := (.array .int)) (by decide) (by decide)))).ext E4).other W5 (Or.inr (slot_ne (Or.inr (ow12 hw)) (Or.inr (ow16 hw)) (by decide) (t := (.array .int)) (t' := (.array .int)) (by decide) (by decide)))).other W8 (Or.inl (Nat.ne_of_lt (Nat.lt_of_lt_of_le (Nat.lt_of_lt_of_le (Nat.lt_of_lt_of_le E_y0.lt (Keep.of_wr W2).1) (Keep.of_wr W3).1) sg_b4)))).other W11 (Or.inl (Nat.ne_of_lt (Nat.lt_of_lt_of_le (Nat.lt_of_lt_of_le (Nat.lt_of_lt_of_le E_y0.lt (Keep.of_wr W2).1) (Keep.of_wr W3).1) sg_b4)))).other W14 (Or.inl (Nat.ne_of_lt (Nat.lt_of_lt_of_le (Nat.lt_of_lt_of_le (Nat.lt_of_lt_of_le E_y0.lt (Keep.of_wr W2).1) (Keep.of_wr W3).1) sg_b4)))), b4, _, (((Fw5.other W8 (Or.inl (Nat.ne_of_lt (Nat.lt_of_lt_of_le (Nat.lt_of_lt_of_le (Nat.lt_of_lt_of_le E_y0.lt (Keep.of_wr W2).1) (Keep.of_wr W3).1) sg_b4)))).other W11 (Or.inl (Nat.ne_of_lt (Nat.lt_of_lt_of_le (Nat.lt_of_lt_of_le (Nat.lt_of_lt_of_le E_y0.lt (Keep.of_wr W2).1) (Keep.of_wr W3).1) sg_b4)))).other W14 (Or.inl (Nat.ne_of_lt (Nat.lt_of_lt_of_le (Nat.lt_of_lt_of_le (Nat.lt_of_lt_of_le E_y0.lt (Keep.of_wr W2).1) (Keep.of_wr W3).1) sg_b4)))), V14⟩
theorem d3_0 : decode prog_32_method_2_code 0 = .ok (.aload_n 0, 1) := by decide +kernel
theorem d3_1 : decode prog_32_method_2_code 1 = .ok (.getfield 7, 3) := by decide +kernel
theorem d3_4 : decode prog_32_method_2_code 4 = .ok (.arraylength, 1) := by decide +kernel
theorem d3_5 : decode prog_32_method_2_code 5 = .ok (.ireturn, 1) := by decide +kernel
theorem ef_rm3 (m : MethodId) (y0 : Addr) : entryFrame m #[(.ref y0)] 1 = mkF m 0 #[.val (.ref y0)] [] := by first | (simp [entryFrame, mkF, argsToLocals, Value.category]; done) | rfl
def Q3 (Z : State) (y0 : Addr) (b : Addr) (kb : ClassId) (vs : List Value) (h0 : Heap) (n0 : Nat) (v : Option Value) (h : Heap) (L : List Loc) : Prop := v = some (.int (3 : Int32)) ∧ Fr n0 L ∧ h = h0
set_option maxRecDepth 65536 in
set_option maxHeartbeats 40000000 in
theorem rm3 (l : Launch) (Z : State) (a0 : Array Value) (hw : ∀ d ∈ tables_1, d.before a0 Z = true) (ws : List Jvm.Cond) (y0 : Addr) (b : Addr) (kb : ClassId) (vs : List Value) (h0 : Heap) (n0 : Nat) (Z0 : n0 ≤ h0.size) (F_d : Fld Z h0 y0 "com/example/feedback/feedback/index/Postings" "documents" "[I" (.ref b)) (V_b : Arv Z h0 b kb .int (3 : Int32) vs (.int (0 : Int32))) :
    MetFree l mn1 (head1 (Jvm.Cond.code mn1 prog_32_method_2_code 1 (some .int) :: ws) ({ frames := 0, cells := 0, slots := 0, locals := 0 } : Room)) (fun a U => a = #[(.ref y0)] ∧ Z.Warmed39 U.vm ∧ U.heap = h0) (fun _ _ _ _ _ => True) (fun _ U o U' => ∃ v L, o = .returned v ∧ Q3 Z y0 b kb vs h0 n0 v U'.heap L ∧ FrameEnd U o U' L ({ frames := 0, cells := 0, slots := 0, locals := 0 } : Room).cells ({ frames := 0, cells := 0, slots := 0, locals := 0 } : Room).slots) := by
  refine MetFree.of_bodySF (plainFor_of_name pn_0) hisR ?_
  intro p e s m args below meth c s₁ Bd hml0 hP hK
  obtain ⟨rfl, hZ, hh⟩ := hP
  have hx := Bd.exec
  have hby := Bd.bytes
  have hml : c.maxLocals = 1 := hml0
  have hown : s.vm.findClass "com/example/feedback/feedback/index/Postings" = some m.cls := findClass_of_methodNamed Bd.named
  have hnm := (name_of_methodNamed Bd.named Bd.method).1
  have X0 : Stand p l e ({ frames := 0, cells := 0, slots := 0, locals := 0 } : Room) s m #[(.ref y0)] below meth c s₁ [] 0 0 := Stand.of_body Bd
  have e0 : s₁.heap = h0 := by rw [← hh, Bd.state]; rfl
  have N0 := Fr.nil n0
  show own_Ends p e below s (Q3 Z y0 b kb vs h0 n0) _ _ s₁ _
  rw [ef_rm3 m y0]
  refine own_go (T' := s₁) (f' := (mkF m 1 #[.val (.ref y0)] [(.ref y0)])) (fun _ k => XS.aloadN X0.here hx rfl (hb hby d3_0) rfl rfl k) ?_
  obtain ⟨T1, X1, e1, st1⟩ := getF X0 hx hZ hown (host := "") (Or.inl (ow11 hw)) Via.refl e0 F_d (g := (mkF m 1 #[.val (.ref y0)] [(.ref y0)])) rfl rfl (hb hby d3_1)
  refine own_go (T' := T1) (f' := (mkF m 5 #[.val (.ref y0)] [(.int (3 : Int32))])) (fun _ k => st1 _ (own_alen X1 hx hZ e1 V_b rfl rfl (hb hby d3_4) k)) ?_
  refine own_ret X1 (v := some (.int (3 : Int32))) (fun h => by rw [Bd.returns] at h; cases h) Bd.notSynchronized (fun fs hr => retI X1 hx Bd.returns (hb hby d3_5) hr) ?_ (by decide) (by decide)
  show Q3 Z y0 b kb vs h0 n0 _ T1.heap _
  exact ⟨rfl, N0, e1⟩
theorem d4_0 : decode prog_32_method_4_code 0 = .ok (.aload_n 0, 1) := by decide +kernel
theorem d4_1 : decode prog_32_method_4_code 1 = .ok (.getfield 16, 3) := by decide +kernel
theorem d4_4 : decode prog_32_method_4_code 4 = .ok (.iload_n 1, 1) := by decide +kernel
theorem d4_5 : decode prog_32_method_4_code 5 = .ok (.iconst 1, 1) := by decide +kernel
theorem d4_6 : decode prog_32_method_4_code 6 = .ok (.iadd, 1) := by decide +kernel
theorem d4_7 : decode prog_32_method_4_code 7 = .ok (.iaload, 1) := by decide +kernel
theorem d4_8 : decode prog_32_method_4_code 8 = .ok (.aload_n 0, 1) := by decide +kernel
theorem d4_9 : decode prog_32_method_4_code 9 = .ok (.getfield 16, 3) := by decide +kernel
theorem d4_12 : decode prog_32_method_4_code 12 = .ok (.iload_n 1, 1) := by decide +kernel
theorem d4_13 : decode prog_32_method_4_code 13 = .ok (.iaload, 1) := by decide +kernel
theorem d4_14 : decode prog_32_method_4_code 14 = .ok (.isub, 1) := by decide +kernel
theorem d4_15 : decode prog_32_method_4_code 15 = .ok (.ireturn, 1) := by decide +kernel
theorem ef_rm4_0 (m : MethodId) (y0 : Addr) : entryFrame m #[(.ref y0), (.int (0 : Int32))] 2 = mkF m 0 #[.val (.ref y0), .val (.int (0 : Int32))] [] := by first | (simp [entryFrame, mkF, argsToLocals, Value.category]; done) | rfl
def Q4_0 (Z : State) (y0 : Addr) (b : Addr) (kb : ClassId) (g0 : Int32) (g1 : Int32) (g2 : Int32) (g3 : Int32) (h0 : Heap) (n0 : Nat) (v : Option Value) (h : Heap) (L : List Loc) : Prop := v = some (.int (g1 - g0)) ∧ Fr n0 L ∧ h = h0
set_option maxRecDepth 65536 in
set_option maxHeartbeats 40000000 in
theorem rm4_0 (l : Launch) (Z : State) (a0 : Array Value) (hw : ∀ d ∈ tables_1, d.before a0 Z = true) (ws : List Jvm.Cond) (y0 : Addr) (b : Addr) (kb : ClassId) (g0 : Int32) (g1 : Int32) (g2 : Int32) (g3 : Int32) (h0 : Heap) (n0 : Nat) (Z0 : n0 ≤ h0.size) (F_p : Fld Z h0 y0 "com/example/feedback/feedback/index/Postings" "positionStarts" "[I" (.ref b)) (V_b : Arv Z h0 b kb .int (4 : Int32) [(.int g0), (.int g1), (.int g2), (.int g3)] (.int (0 : Int32))) :
    MetFree l mn2 (head1 (Jvm.Cond.code mn2 prog_32_method_4_code 2 (some .int) :: ws) ({ frames := 0, cells := 0, slots := 0, locals := 0 } : Room)) (fun a U => a = #[(.ref y0), (.int (0 : Int32))] ∧ Z.Warmed39 U.vm ∧ U.heap = h0) (fun _ _ _ _ _ => True) (fun _ U o U' => ∃ v L, o = .returned v ∧ Q4_0 Z y0 b kb g0 g1 g2 g3 h0 n0 v U'.heap L ∧ FrameEnd U o U' L ({ frames := 0, cells := 0, slots := 0, locals := 0 } : Room).cells ({ frames := 0, cells := 0, slots := 0, locals := 0 } : Room).slots) := by
  refine MetFree.of_bodySF (plainFor_of_name pn_0) hisR ?_
  intro p e s m args below meth c s₁ Bd hml0 hP hK
  obtain ⟨rfl, hZ, hh⟩ := hP
  have hx := Bd.exec
  have hby := Bd.bytes
  have hml : c.maxLocals = 2 := hml0
  have hown : s.vm.findClass "com/example/feedback/feedback/index/Postings" = some m.cls := findClass_of_methodNamed Bd.named
  have hnm := (name_of_methodNamed Bd.named Bd.method).1
  have X0 : Stand p l e ({ frames := 0, cells := 0, slots := 0, locals := 0 } : Room) s m #[(.ref y0), (.int (0 : Int32))] below meth c s₁ [] 0 0 := Stand.of_body Bd
  have e0 : s₁.heap = h0 := by rw [← hh, Bd.state]; rfl
  have N0 := Fr.nil n0
  show own_Ends p e below s (Q4_0 Z y0 b kb g0 g1 g2 g3 h0 n0) _ _ s₁ _
  rw [ef_rm4_0 m y0]
  refine own_go (T' := s₁) (f' := (mkF m 1 #[.val (.ref y0), .val (.int (0 : Int32))] [(.ref y0)])) (fun _ k => XS.aloadN X0.here hx rfl (hb hby d4_0) rfl rfl k) ?_
  obtain ⟨T1, X1, e1, st1⟩ := getF X0 hx hZ hown (host := "") (Or.inl (ow15 hw)) Via.refl e0 F_p (g := (mkF m 1 #[.val (.ref y0), .val (.int (0 : Int32))] [(.ref y0)])) rfl rfl (hb hby d4_1)
  refine own_go (T' := T1) (f' := (mkF m 9 #[.val (.ref y0), .val (.int (0 : Int32))] [(.ref y0), (.int g1)])) (fun _ k => st1 _ (XS.iloadN X1.here hx rfl (hb hby d4_4) rfl (XS.iconst X1.here hx rfl (hb hby d4_5) (XS.iadd X1.here hx rfl (hb hby d4_6) rfl (own_ldI X1 hx hZ e1 V_b (j := (1 : Int32)) (x := g1) ⟨by decide, by decide⟩ rfl rfl rfl (hb hby d4_7) (XS.aloadN X1.here hx rfl (hb hby d4_8) rfl rfl k)))))) ?_
  obtain ⟨T2, X2, e2, st2⟩ := getF X1 hx hZ hown (host := "") (Or.inl (ow15 hw)) Via.refl e1 F_p (g := (mkF m 9 #[.val (.ref y0), .val (.int (0 : Int32))] [(.ref y0), (.int g1)])) rfl rfl (hb hby d4_9)
  refine own_go (T' := T2) (f' := (mkF m 15 #[.val (.ref y0), .val (.int (0 : Int32))] [(.int (g1 - g0))])) (fun _ k => st2 _ (XS.iloadN X2.here hx rfl (hb hby d4_12) rfl (own_ldI X2 hx hZ e2 V_b (j := (0 : Int32)) (x := g0) ⟨by decide, by decide⟩ rfl rfl rfl (hb hby d4_13) (XS.isub X2.here hx rfl (hb hby d4_14) rfl k)))) ?_
  refine own_ret X2 (v := some (.int (g1 - g0))) (fun h => by rw [Bd.returns] at h; cases h) Bd.notSynchronized (fun fs hr => retI X2 hx Bd.returns (hb hby d4_15) hr) ?_ (by decide) (by decide)
  show Q4_0 Z y0 b kb g0 g1 g2 g3 h0 n0 _ T2.heap _
  exact ⟨rfl, N0, e2⟩
theorem ef_rm4_1 (m : MethodId) (y0 : Addr) : entryFrame m #[(.ref y0), (.int (1 : Int32))] 2 = mkF m 0 #[.val (.ref y0), .val (.int (1 : Int32))] [] := by first | (simp [entryFrame, mkF, argsToLocals, Value.category]; done) | rfl
def Q4_1 (Z : State) (y0 : Addr) (b : Addr) (kb : ClassId) (g0 : Int32) (g1 : Int32) (g2 : Int32) (g3 : Int32) (h0 : Heap) (n0 : Nat) (v : Option Value) (h : Heap) (L : List Loc) : Prop := v = some (.int (g2 - g1)) ∧ Fr n0 L ∧ h = h0
set_option maxRecDepth 65536 in
set_option maxHeartbeats 40000000 in
theorem rm4_1 (l : Launch) (Z : State) (a0 : Array Value) (hw : ∀ d ∈ tables_1, d.before a0 Z = true) (ws : List Jvm.Cond) (y0 : Addr) (b : Addr) (kb : ClassId) (g0 : Int32) (g1 : Int32) (g2 : Int32) (g3 : Int32) (h0 : Heap) (n0 : Nat) (Z0 : n0 ≤ h0.size) (F_p : Fld Z h0 y0 "com/example/feedback/feedback/index/Postings" "positionStarts" "[I" (.ref b)) (V_b : Arv Z h0 b kb .int (4 : Int32) [(.int g0), (.int g1), (.int g2), (.int g3)] (.int (0 : Int32))) :
    MetFree l mn2 (head1 (Jvm.Cond.code mn2 prog_32_method_4_code 2 (some .int) :: ws) ({ frames := 0, cells := 0, slots := 0, locals := 0 } : Room)) (fun a U => a = #[(.ref y0), (.int (1 : Int32))] ∧ Z.Warmed39 U.vm ∧ U.heap = h0) (fun _ _ _ _ _ => True) (fun _ U o U' => ∃ v L, o = .returned v ∧ Q4_1 Z y0 b kb g0 g1 g2 g3 h0 n0 v U'.heap L ∧ FrameEnd U o U' L ({ frames := 0, cells := 0, slots := 0, locals := 0 } : Room).cells ({ frames := 0, cells := 0, slots := 0, locals := 0 } : Room).slots) := by
  refine MetFree.of_bodySF (plainFor_of_name pn_0) hisR ?_
  intro p e s m args below meth c s₁ Bd hml0 hP hK
  obtain ⟨rfl, hZ, hh⟩ := hP
  have hx := Bd.exec
  have hby := Bd.bytes
  have hml : c.maxLocals = 2 := hml0
  have hown : s.vm.findClass "com/example/feedback/feedback/index/Postings" = some m.cls := findClass_of_methodNamed Bd.named
  have hnm := (name_of_methodNamed Bd.named Bd.method).1
  have X0 : Stand p l e ({ frames := 0, cells := 0, slots := 0, locals := 0 } : Room) s m #[(.ref y0), (.int (1 : Int32))] below meth c s₁ [] 0 0 := Stand.of_body Bd
  have e0 : s₁.heap = h0 := by rw [← hh, Bd.state]; rfl
  have N0 := Fr.nil n0
  show own_Ends p e below s (Q4_1 Z y0 b kb g0 g1 g2 g3 h0 n0) _ _ s₁ _
  rw [ef_rm4_1 m y0]
  refine own_go (T' := s₁) (f' := (mkF m 1 #[.val (.ref y0), .val (.int (1 : Int32))] [(.ref y0)])) (fun _ k => XS.aloadN X0.here hx rfl (hb hby d4_0) rfl rfl k) ?_
  obtain ⟨T1, X1, e1, st1⟩ := getF X0 hx hZ hown (host := "") (Or.inl (ow15 hw)) Via.refl e0 F_p (g := (mkF m 1 #[.val (.ref y0), .val (.int (1 : Int32))] [(.ref y0)])) rfl rfl (hb hby d4_1)
  refine own_go (T' := T1) (f' := (mkF m 9 #[.val (.ref y0), .val (.int (1 : Int32))] [(.ref y0), (.int g2)])) (fun _ k => st1 _ (XS.iloadN X1.here hx rfl (hb hby d4_4) rfl (XS.iconst X1.here hx rfl (hb hby d4_5) (XS.iadd X1.here hx rfl (hb hby d4_6) rfl (own_ldI X1 hx hZ e1 V_b (j := (2 : Int32)) (x := g2) ⟨by decide, by decide⟩ rfl rfl rfl (hb hby d4_7) (XS.aloadN X1.here hx rfl (hb hby d4_8) rfl rfl k)))))) ?_
  obtain ⟨T2, X2, e2, st2⟩ := getF X1 hx hZ hown (host := "") (Or.inl (ow15 hw)) Via.refl e1 F_p (g := (mkF m 9 #[.val (.ref y0), .val (.int (1 : Int32))] [(.ref y0), (.int g2)])) rfl rfl (hb hby d4_9)
  refine own_go (T' := T2) (f' := (mkF m 15 #[.val (.ref y0), .val (.int (1 : Int32))] [(.int (g2 - g1))])) (fun _ k => st2 _ (XS.iloadN X2.here hx rfl (hb hby d4_12) rfl (own_ldI X2 hx hZ e2 V_b (j := (1 : Int32)) (x := g1) ⟨by decide, by decide⟩ rfl rfl rfl (hb hby d4_13) (XS.isub X2.here hx rfl (hb hby d4_14) rfl k)))) ?_
  refine own_ret X2 (v := some (.int (g2 - g1))) (fun h => by rw [Bd.returns] at h; cases h) Bd.notSynchronized (fun fs hr => retI X2 hx Bd.returns (hb hby d4_15) hr) ?_ (by decide) (by decide)
  show Q4_1 Z y0 b kb g0 g1 g2 g3 h0 n0 _ T2.heap _
  exact ⟨rfl, N0, e2⟩
theorem ef_rm4_2 (m : MethodId) (y0 : Addr) : entryFrame m #[(.ref y0), (.int (2 : Int32))] 2 = mkF m 0 #[.val (.ref y0), .val (.int (2 : Int32))] [] := by first | (simp [entryFrame, mkF, argsToLocals, Value.category]; done) | rfl
def Q4_2 (Z : State) (y0 : Addr) (b : Addr) (kb : ClassId) (g0 : Int32) (g1 : Int32) (g2 : Int32) (g3 : Int32) (h0 : Heap) (n0 : Nat) (v : Option Value) (h : Heap) (L : List Loc) : Prop := v = some (.int (g3 - g2)) ∧ Fr n0 L ∧ h = h0
set_option maxRecDepth 65536 in
set_option maxHeartbeats 40000000 in
theorem rm4_2 (l : Launch) (Z : State) (a0 : Array Value) (hw : ∀ d ∈ tables_1, d.before a0 Z = true) (ws : List Jvm.Cond) (y0 : Addr) (b : Addr) (kb : ClassId) (g0 : Int32) (g1 : Int32) (g2 : Int32) (g3 : Int32) (h0 : Heap) (n0 : Nat) (Z0 : n0 ≤ h0.size) (F_p : Fld Z h0 y0 "com/example/feedback/feedback/index/Postings" "positionStarts" "[I" (.ref b)) (V_b : Arv Z h0 b kb .int (4 : Int32) [(.int g0), (.int g1), (.int g2), (.int g3)] (.int (0 : Int32))) :
    MetFree l mn2 (head1 (Jvm.Cond.code mn2 prog_32_method_4_code 2 (some .int) :: ws) ({ frames := 0, cells := 0, slots := 0, locals := 0 } : Room)) (fun a U => a = #[(.ref y0), (.int (2 : Int32))] ∧ Z.Warmed39 U.vm ∧ U.heap = h0) (fun _ _ _ _ _ => True) (fun _ U o U' => ∃ v L, o = .returned v ∧ Q4_2 Z y0 b kb g0 g1 g2 g3 h0 n0 v U'.heap L ∧ FrameEnd U o U' L ({ frames := 0, cells := 0, slots := 0, locals := 0 } : Room).cells ({ frames := 0, cells := 0, slots := 0, locals := 0 } : Room).slots) := by
  refine MetFree.of_bodySF (plainFor_of_name pn_0) hisR ?_
  intro p e s m args below meth c s₁ Bd hml0 hP hK
  obtain ⟨rfl, hZ, hh⟩ := hP
  have hx := Bd.exec
  have hby := Bd.bytes
  have hml : c.maxLocals = 2 := hml0
  have hown : s.vm.findClass "com/example/feedback/feedback/index/Postings" = some m.cls := findClass_of_methodNamed Bd.named
  have hnm := (name_of_methodNamed Bd.named Bd.method).1
  have X0 : Stand p l e ({ frames := 0, cells := 0, slots := 0, locals := 0 } : Room) s m #[(.ref y0), (.int (2 : Int32))] below meth c s₁ [] 0 0 := Stand.of_body Bd
  have e0 : s₁.heap = h0 := by rw [← hh, Bd.state]; rfl
  have N0 := Fr.nil n0
  show own_Ends p e below s (Q4_2 Z y0 b kb g0 g1 g2 g3 h0 n0) _ _ s₁ _
  rw [ef_rm4_2 m y0]
  refine own_go (T' := s₁) (f' := (mkF m 1 #[.val (.ref y0), .val (.int (2 : Int32))] [(.ref y0)])) (fun _ k => XS.aloadN X0.here hx rfl (hb hby d4_0) rfl rfl k) ?_
  obtain ⟨T1, X1, e1, st1⟩ := getF X0 hx hZ hown (host := "") (Or.inl (ow15 hw)) Via.refl e0 F_p (g := (mkF m 1 #[.val (.ref y0), .val (.int (2 : Int32))] [(.ref y0)])) rfl rfl (hb hby d4_1)
  refine own_go (T' := T1) (f' := (mkF m 9 #[.val (.ref y0), .val (.int (2 : Int32))] [(.ref y0), (.int g3)])) (fun _ k => st1 _ (XS.iloadN X1.here hx rfl (hb hby d4_4) rfl (XS.iconst X1.here hx rfl (hb hby d4_5) (XS.iadd X1.here hx rfl (hb hby d4_6) rfl (own_ldI X1 hx hZ e1 V_b (j := (3 : Int32)) (x := g3) ⟨by decide, by decide⟩ rfl rfl rfl (hb hby d4_7) (XS.aloadN X1.here hx rfl (hb hby d4_8) rfl rfl k)))))) ?_
  obtain ⟨T2, X2, e2, st2⟩ := getF X1 hx hZ hown (host := "") (Or.inl (ow15 hw)) Via.refl e1 F_p (g := (mkF m 9 #[.val (.ref y0), .val (.int (2 : Int32))] [(.ref y0), (.int g3)])) rfl rfl (hb hby d4_9)
  refine own_go (T' := T2) (f' := (mkF m 15 #[.val (.ref y0), .val (.int (2 : Int32))] [(.int (g3 - g2))])) (fun _ k => st2 _ (XS.iloadN X2.here hx rfl (hb hby d4_12) rfl (own_ldI X2 hx hZ e2 V_b (j := (2 : Int32)) (x := g2) ⟨by decide, by decide⟩ rfl rfl rfl (hb hby d4_13) (XS.isub X2.here hx rfl (hb hby d4_14) rfl k)))) ?_
  refine own_ret X2 (v := some (.int (g3 - g2))) (fun h => by rw [Bd.returns] at h; cases h) Bd.notSynchronized (fun fs hr => retI X2 hx Bd.returns (hb hby d4_15) hr) ?_ (by decide) (by decide)
  show Q4_2 Z y0 b kb g0 g1 g2 g3 h0 n0 _ T2.heap _
  exact ⟨rfl, N0, e2⟩
theorem pd3 : parseMethodDescriptor "([I[I[I)V" = some ⟨[(.array .int), (.array .int), (.array .int)], none⟩ := by decide +kernel
theorem pd0 : parseMethodDescriptor "()I" = some ⟨[], some .int⟩ := by decide +kernel
theorem pd2 : parseMethodDescriptor "(I)I" = some ⟨[.int], some .int⟩ := by decide +kernel
theorem pn_1 : plainName "com/example/feedback/feedback/index/PostingsFrequencyPinLaw" = true := by first | (simp [plainName, overriddenIn]; done) | decide +kernel
theorem ef_rm0 (m : MethodId) (p0 : Int32) (p1 : Int32) (p2 : Int32) (p3 : Int32) : entryFrame m #[(.int p0), (.int p1), (.int p2), (.int p3)] maxLocals = mkF m 0 #[.val (.int p0), .val (.int p1), .val (.int p2), .val (.int p3), .unset, .unset, .unset, .unset, .unset, .unset, .unset, .unset, .unset, .unset] [] := by first | (simp [entryFrame, mkF, argsToLocals, Value.category, maxLocals]; done) | rfl
def Q0 (Z : State) (p0 : Int32) (p1 : Int32) (p2 : Int32) (p3 : Int32) (h0 : Heap) (n0 : Nat) (v : Option Value) (h : Heap) (L : List Loc) : Prop := v = some (.int (1 : Int32)) ∧ Fr n0 L
set_option maxRecDepth 65536 in
set_option maxHeartbeats 40000000 in
theorem rm0 (l : Launch) (Z : State) (a0 : Array Value) (hw : ∀ d ∈ tables_1, d.before a0 Z = true) (ws : List Jvm.Cond) (p0 : Int32) (p1 : Int32) (p2 : Int32) (p3 : Int32) (h0 : Heap) (n0 : Nat) (Z0 : n0 ≤ h0.size) :
    MetFree l x (head1 (Jvm.Cond.code x code maxLocals ret :: ws) room_1) (fun a U => a = #[(.int p0), (.int p1), (.int p2), (.int p3)] ∧ Z.Warmed39 U.vm ∧ U.heap = h0) (fun _ _ _ _ _ => True) (fun _ U o U' => ∃ v L, o = .returned v ∧ Q0 Z p0 p1 p2 p3 h0 n0 v U'.heap L ∧ FrameEnd U o U' L room_1.cells room_1.slots) := by
  refine MetFree.of_bodySF (plainFor_of_name pn_1) hisR ?_
  intro p e s m args below meth c s₁ Bd hml0 hP hK
  obtain ⟨rfl, hZ, hh⟩ := hP
  have hx := Bd.exec
  have hby := Bd.bytes
  have hml : c.maxLocals = 14 := hml0
  have hown : s.vm.findClass "com/example/feedback/feedback/index/PostingsFrequencyPinLaw" = some m.cls := findClass_of_methodNamed Bd.named
  have hnm := (name_of_methodNamed Bd.named Bd.method).1
  have X0 : Stand p l e room_1 s m #[(.int p0), (.int p1), (.int p2), (.int p3)] below meth c s₁ [] 0 0 := Stand.of_body Bd
  have e0 : s₁.heap = h0 := by rw [← hh, Bd.state]; rfl
  have N0 := Fr.nil n0
  show own_Ends p e below s (Q0 Z p0 p1 p2 p3 h0 n0) _ _ s₁ _
  rw [ef_rm0 m p0 p1 p2 p3]
  refine own_go (T' := s₁) (f' := (mkF m 9 #[.val (.int p0), .val (.int p1), .val (.int p2), .val (.int p3), .val (.int ((p0 &&& (255 : Int32)) + (1 : Int32))), .unset, .unset, .unset, .unset, .unset, .unset, .unset, .unset, .unset] [])) (fun _ k => XS.iloadN X0.here hx rfl (hb hby at_0) rfl (XS.sipush X0.here hx rfl (hb hby at_1) (XS.iand X0.here hx rfl (hb hby at_4) rfl (XS.iconst X0.here hx rfl (hb hby at_5) (XS.iadd X0.here hx rfl (hb hby at_6) rfl (XS.istore X0.here hx rfl (hb hby at_7) rfl (l' := #[.val (.int p0), .val (.int p1), .val (.int p2), .val (.int p3), .val (.int ((p0 &&& (255 : Int32)) + (1 : Int32))), .unset, .unset, .unset, .unset, .unset, .unset, .unset, .unset, .unset]) rfl k)))))) ?_
  generalize hzf0 : ((p0 &&& (255 : Int32)) + (1 : Int32)) = zf0
  have bf0 : 1 ≤ zf0.toInt ∧ zf0.toInt ≤ 256 := by rw [← hzf0]; exact own_f _
  refine own_go (T' := s₁) (f' := (mkF m 18 #[.val (.int p0), .val (.int p1), .val (.int p2), .val (.int p3), .val (.int zf0), .val (.int ((p1 &&& (255 : Int32)) + (1 : Int32))), .unset, .unset, .unset, .unset, .unset, .unset, .unset, .unset] [])) (fun _ k => XS.iloadN X0.here hx rfl (hb hby at_9) rfl (XS.sipush X0.here hx rfl (hb hby at_10) (XS.iand X0.here hx rfl (hb hby at_13) rfl (XS.iconst X0.here hx rfl (hb hby at_14) (XS.iadd X0.here hx rfl (hb hby at_15) rfl (XS.istore X0.here hx rfl (hb hby at_16) rfl (l' := #[.val (.int p0), .val (.int p1), .val (.int p2), .val (.int p3), .val (.int zf0), .val (.int ((p1 &&& (255 : Int32)) + (1 : Int32))), .unset, .unset, .unset, .unset, .unset, .unset, .unset, .unset]) rfl k)))))) ?_
  generalize hzf1 : ((p1 &&& (255 : Int32)) + (1 : Int32)) = zf1
  have bf1 : 1 ≤ zf1.toInt ∧ zf1.toInt ≤ 256 := by rw [← hzf1]; exact own_f _
  refine own_go (T' := s₁) (f' := (mkF m 27 #[.val (.int p0), .val (.int p1), .val (.int p2), .val (.int p3), .val (.int zf0), .val (.int zf1), .val (.int ((p2 &&& (255 : Int32)) + (1 : Int32))), .unset, .unset, .unset, .unset, .unset, .unset, .unset] [])) (fun _ k => XS.iloadN X0.here hx rfl (hb hby at_18) rfl (XS.sipush X0.here hx rfl (hb hby at_19) (XS.iand X0.here hx rfl (hb hby at_22) rfl (XS.iconst X0.here hx rfl (hb hby at_23) (XS.iadd X0.here hx rfl (hb hby at_24) rfl (XS.istore X0.here hx rfl (hb hby at_25) rfl (l' := #[.val (.int p0), .val (.int p1), .val (.int p2), .val (.int p3), .val (.int zf0), .val (.int zf1), .val (.int ((p2 &&& (255 : Int32)) + (1 : Int32))), .unset, .unset, .unset, .unset, .unset, .unset, .unset]) rfl k)))))) ?_
  generalize hzf2 : ((p2 &&& (255 : Int32)) + (1 : Int32)) = zf2
  have bf2 : 1 ≤ zf2.toInt ∧ zf2.toInt ≤ 256 := by rw [← hzf2]; exact own_f _
  refine own_go (T' := s₁) (f' := (mkF m 33 #[.val (.int p0), .val (.int p1), .val (.int p2), .val (.int p3), .val (.int zf0), .val (.int zf1), .val (.int zf2), .val (.int (p3 &&& (65535 : Int32))), .unset, .unset, .unset, .unset, .unset, .unset] [])) (fun _ k => XS.iloadN X0.here hx rfl (hb hby at_27) rfl (X0.ldcInt hx hown (mvT hZ (ow0 hw)) (g := (mkF m 28 #[.val (.int p0), .val (.int p1), .val (.int p2), .val (.int p3), .val (.int zf0), .val (.int zf1), .val (.int zf2), .unset, .unset, .unset, .unset, .unset, .unset, .unset] [(.int p3)])) rfl (hb hby at_28) _ (XS.iand X0.here hx rfl (hb hby at_30) rfl (XS.istore X0.here hx rfl (hb hby at_31) rfl (l' := #[.val (.int p0), .val (.int p1), .val (.int p2), .val (.int p3), .val (.int zf0), .val (.int zf1), .val (.int zf2), .val (.int (p3 &&& (65535 : Int32))), .unset, .unset, .unset, .unset, .unset, .unset]) rfl k)))) ?_
  generalize hzd0 : (p3 &&& (65535 : Int32)) = zd0
  refine own_go (T' := s₁) (f' := (mkF m 41 #[.val (.int p0), .val (.int p1), .val (.int p2), .val (.int p3), .val (.int zf0), .val (.int zf1), .val (.int zf2), .val (.int zd0), .unset, .unset, .unset, .unset, .unset, .unset] [(.int ((p3.toUInt32 >>> ((16 : Int32) &&& 31).toUInt32).toInt32)), (.int (zd0 + (1 : Int32)))])) (fun _ k => XS.iload X0.here hx rfl (hb hby at_33) rfl (XS.iconst X0.here hx rfl (hb hby at_35) (XS.iadd X0.here hx rfl (hb hby at_36) rfl (XS.iloadN X0.here hx rfl (hb hby at_37) rfl (XS.bipush X0.here hx rfl (hb hby at_38) (XS.iushr X0.here hx rfl (hb hby at_40) rfl k)))))) ?_
  refine own_go (T' := s₁) (f' := (mkF m 48 #[.val (.int p0), .val (.int p1), .val (.int p2), .val (.int p3), .val (.int zf0), .val (.int zf1), .val (.int zf2), .val (.int zd0), .val (.int ((zd0 + (1 : Int32)) + (((p3.toUInt32 >>> ((16 : Int32) &&& 31).toUInt32).toInt32) &&& (255 : Int32)))), .unset, .unset, .unset, .unset, .unset] [])) (fun _ k => XS.sipush X0.here hx rfl (hb hby at_41) (XS.iand X0.here hx rfl (hb hby at_44) rfl (XS.iadd X0.here hx rfl (hb hby at_45) rfl (XS.istore X0.here hx rfl (hb hby at_46) rfl (l' := #[.val (.int p0), .val (.int p1), .val (.int p2), .val (.int p3), .val (.int zf0), .val (.int zf1), .val (.int zf2), .val (.int zd0), .val (.int ((zd0 + (1 : Int32)) + (((p3.toUInt32 >>> ((16 : Int32) &&& 31).toUInt32).toInt32) &&& (255 : Int32)))), .unset, .unset, .unset, .unset, .unset]) rfl k)))) ?_
  generalize hzd1 : ((zd0 + (1 : Int32)) + (((p3.toUInt32 >>> ((16 : Int32) &&& 31).toUInt32).toInt32) &&& (255 : Int32))) = zd1
  refine own_go (T' := s₁) (f' := (mkF m 56 #[.val (.int p0), .val (.int p1), .val (.int p2), .val (.int p3), .val (.int zf0), .val (.int zf1), .val (.int zf2), .val (.int zd0), .val (.int zd1), .unset, .unset, .unset, .unset, .unset] [(.int ((p3.toUInt32 >>> ((24 : Int32) &&& 31).toUInt32).toInt32)), (.int (zd1 + (1 : Int32)))])) (fun _ k => XS.iload X0.here hx rfl (hb hby at_48) rfl (XS.iconst X0.here hx rfl (hb hby at_50) (XS.iadd X0.here hx rfl (hb hby at_51) rfl (XS.iloadN X0.here hx rfl (hb hby at_52) rfl (XS.bipush X0.here hx rfl (hb hby at_53) (XS.iushr X0.here hx rfl (hb hby at_55) rfl k)))))) ?_
  refine own_go (T' := s₁) (f' := (mkF m 59 #[.val (.int p0), .val (.int p1), .val (.int p2), .val (.int p3), .val (.int zf0), .val (.int zf1), .val (.int zf2), .val (.int zd0), .val (.int zd1), .val (.int ((zd1 + (1 : Int32)) + ((p3.toUInt32 >>> ((24 : Int32) &&& 31).toUInt32).toInt32))), .unset, .unset, .unset, .unset] [])) (fun _ k => XS.iadd X0.here hx rfl (hb hby at_56) rfl (XS.istore X0.here hx rfl (hb hby at_57) rfl (l' := #[.val (.int p0), .val (.int p1), .val (.int p2), .val (.int p3), .val (.int zf0), .val (.int zf1), .val (.int zf2), .val (.int zd0), .val (.int zd1), .val (.int ((zd1 + (1 : Int32)) + ((p3.toUInt32 >>> ((24 : Int32) &&& 31).toUInt32).toInt32))), .unset, .unset, .unset, .unset]) rfl k)) ?_
  generalize hzd2 : ((zd1 + (1 : Int32)) + ((p3.toUInt32 >>> ((24 : Int32) &&& 31).toUInt32).toInt32)) = zd2
  refine own_go (T' := s₁) (f' := (mkF m 60 #[.val (.int p0), .val (.int p1), .val (.int p2), .val (.int p3), .val (.int zf0), .val (.int zf1), .val (.int zf2), .val (.int zd0), .val (.int zd1), .val (.int zd2), .unset, .unset, .unset, .unset] [(.int (3 : Int32))])) (fun _ k => XS.iconst X0.here hx rfl (hb hby at_59) k) ?_
  obtain ⟨T1, h1, k1, X1, e1, E1, A1, st1⟩ := newP (aty := .int) X0 hx hZ (ow1 hw) e0 (g := (mkF m 60 #[.val (.int p0), .val (.int p1), .val (.int p2), .val (.int p3), .val (.int zf0), .val (.int zf1), .val (.int zf2), .val (.int zd0), .val (.int zd1), .val (.int zd2), .unset, .unset, .unset, .unset] [(.int (3 : Int32))])) rfl (hb hby at_60) rfl (by decide) (cap := 3) (by decide) (by decide) (by decide) (by decide)
  obtain ⟨b1, g_b1⟩ : ∃ z, z = h0.size := ⟨_, rfl⟩
  have sg_b1 : h0.size ≤ b1 := Nat.le_of_eq g_b1.symm
  rw [← g_b1] at A1 st1
  have n_b1 : n0 ≤ b1 := Nat.le_trans Z0 (Nat.le_of_eq g_b1.symm)
  have sz_b1 : h0.size ≤ b1 := Nat.le_trans (Keep.refl h0 []).1 (Nat.le_of_eq g_b1.symm)
  have K1 : Keep h0 h1 [] := (Keep.refl h0 []).ext E1
  have V_b1 : Arv Z h1 b1 k1 .int (3 : Int32) [(.int (0 : Int32)), (.int (0 : Int32)), (.int (0 : Int32))] (.int (0 : Int32)) := (Arv.new A1 (by decide)).pad (pad_rep [] (.int (0 : Int32)) 3)
  refine own_go (T' := T1) (f' := (mkF m 66 #[.val (.int p0), .val (.int p1), .val (.int p2), .val (.int p3), .val (.int zf0), .val (.int zf1), .val (.int zf2), .val (.int zd0), .val (.int zd1), .val (.int zd2), .unset, .unset, .unset, .unset] [(.int zd0), (.int (0 : Int32)), (.ref b1), (.ref b1)])) (fun _ k => st1 _ (XS.dup X1.here hx rfl (hb hby at_62) rfl rfl (XS.iconst X1.here hx rfl (hb hby at_63) (XS.iload X1.here hx rfl (hb hby at_64) rfl k)))) ?_
  obtain ⟨T2, h2, X2, e2, W2, V2, st2⟩ := own_stI X1 hx hZ e1 V_b1 (j := (0 : Int32)) ⟨by decide, by decide⟩ 0 rfl (Nat.le_of_ble_eq_true rfl) (g := (mkF m 66 #[.val (.int p0), .val (.int p1), .val (.int p2), .val (.int p3), .val (.int zf0), .val (.int zf1), .val (.int zf2), .val (.int zd0), .val (.int zd1), .val (.int zd2), .unset, .unset, .unset, .unset] [(.int zd0), (.int (0 : Int32)), (.ref b1), (.ref b1)])) rfl rfl (hb hby at_66)
  have K2 : Keep h0 h2 [] := K1.wr W2 (Or.inr sz_b1)
  have N2 := Fr.snoc X2 N0 n_b1
  refine own_go (T' := T2) (f' := (mkF m 71 #[.val (.int p0), .val (.int p1), .val (.int p2), .val (.int p3), .val (.int zf0), .val (.int zf1), .val (.int zf2), .val (.int zd0), .val (.int zd1), .val (.int zd2), .unset, .unset, .unset, .unset] [(.int zd1), (.int (1 : Int32)), (.ref b1), (.ref b1)])) (fun _ k => st2 _ (XS.dup X2.here hx rfl (hb hby at_67) rfl rfl (XS.iconst X2.here hx rfl (hb hby at_68) (XS.iload X2.here hx rfl (hb hby at_69) rfl k)))) ?_
  obtain ⟨T3, h3, X3, e3, W3, V3, st3⟩ := own_stI X2 hx hZ e2 V2 (j := (1 : Int32)) ⟨by decide, by decide⟩ 1 rfl (Nat.le_of_ble_eq_true rfl) (g := (mkF m 71 #[.val (.int p0), .val (.int p1), .val (.int p2), .val (.int p3), .val (.int zf0), .val (.int zf1), .val (.int zf2), .val (.int zd0), .val (.int zd1), .val (.int zd2), .unset, .unset, .unset, .unset] [(.int zd1), (.int (1 : Int32)), (.ref b1), (.ref b1)])) rfl rfl (hb hby at_71)
  have K3 : Keep h0 h3 [] := K2.wr W3 (Or.inr sz_b1)
  have N3 := Fr.snoc X3 N2 n_b1
  refine own_go (T' := T3) (f' := (mkF m 76 #[.val (.int p0), .val (.int p1), .val (.int p2), .val (.int p3), .val (.int zf0), .val (.int zf1), .val (.int zf2), .val (.int zd0), .val (.int zd1), .val (.int zd2), .unset, .unset, .unset, .unset] [(.int zd2), (.int (2 : Int32)), (.ref b1), (.ref b1)])) (fun _ k => st3 _ (XS.dup X3.here hx rfl (hb hby at_72) rfl rfl (XS.iconst X3.here hx rfl (hb hby at_73) (XS.iload X3.here hx rfl (hb hby at_74) rfl k)))) ?_
  obtain ⟨T4, h4, X4, e4, W4, V4, st4⟩ := own_stI X3 hx hZ e3 V3 (j := (2 : Int32)) ⟨by decide, by decide⟩ 2 rfl (Nat.le_of_ble_eq_true rfl) (g := (mkF m 76 #[.val (.int p0), .val (.int p1), .val (.int p2), .val (.int p3), .val (.int zf0), .val (.int zf1), .val (.int zf2), .val (.int zd0), .val (.int zd1), .val (.int zd2), .unset, .unset, .unset, .unset] [(.int zd2), (.int (2 : Int32)), (.ref b1), (.ref b1)])) rfl rfl (hb hby at_76)
  have K4 : Keep h0 h4 [] := K3.wr W4 (Or.inr sz_b1)
  have N4 := Fr.snoc X4 N3 n_b1
  refine own_go (T' := T4) (f' := (mkF m 80 #[.val (.int p0), .val (.int p1), .val (.int p2), .val (.int p3), .val (.int zf0), .val (.int zf1), .val (.int zf2), .val (.int zd0), .val (.int zd1), .val (.int zd2), .val (.ref b1), .unset, .unset, .unset] [(.int (3 : Int32))])) (fun _ k => st4 _ (XS.astore X4.here hx rfl (hb hby at_77) rfl rfl (l' := #[.val (.int p0), .val (.int p1), .val (.int p2), .val (.int p3), .val (.int zf0), .val (.int zf1), .val (.int zf2), .val (.int zd0), .val (.int zd1), .val (.int zd2), .val (.ref b1), .unset, .unset, .unset]) rfl (XS.iconst X4.here hx rfl (hb hby at_79) k))) ?_
  obtain ⟨T5, h5, k5, X5, e5, E5, A5, st5⟩ := newP (aty := .int) X4 hx hZ (ow1 hw) e4 (g := (mkF m 80 #[.val (.int p0), .val (.int p1), .val (.int p2), .val (.int p3), .val (.int zf0), .val (.int zf1), .val (.int zf2), .val (.int zd0), .val (.int zd1), .val (.int zd2), .val (.ref b1), .unset, .unset, .unset] [(.int (3 : Int32))])) rfl (hb hby at_80) rfl (by decide) (cap := 3) (by decide) (by decide) (by decide) (by decide)
  obtain ⟨b5, g_b5⟩ : ∃ z, z = h4.size := ⟨_, rfl⟩
  have sg_b5 : h4.size ≤ b5 := Nat.le_of_eq g_b5.symm
  rw [← g_b5] at A5 st5
  have n_b5 : n0 ≤ b5 := Nat.le_trans (Nat.le_trans (Nat.le_trans (Nat.le_trans (Nat.le_trans Z0 E1.1) (Keep.of_wr W2).1) (Keep.of_wr W3).1) (Keep.of_wr W4).1) (Nat.le_of_eq g_b5.symm)
  have sz_b5 : h0.size ≤ b5 := Nat.le_trans K4.1 (Nat.le_of_eq g_b5.symm)
  have K5 : Keep h0 h5 [] := K4.ext E5
  have V_b5 : Arv Z h5 b5 k5 .int (3 : Int32) [(.int (0 : Int32)), (.int (0 : Int32)), (.int (0 : Int32))] (.int (0 : Int32)) := (Arv.new A5 (by decide)).pad (pad_rep [] (.int (0 : Int32)) 3)
  refine own_go (T' := T5) (f' := (mkF m 86 #[.val (.int p0), .val (.int p1), .val (.int p2), .val (.int p3), .val (.int zf0), .val (.int zf1), .val (.int zf2), .val (.int zd0), .val (.int zd1), .val (.int zd2), .val (.ref b1), .unset, .unset, .unset] [(.int zf0), (.int (0 : Int32)), (.ref b5), (.ref b5)])) (fun _ k => st5 _ (XS.dup X5.here hx rfl (hb hby at_82) rfl rfl (XS.iconst X5.here hx rfl (hb hby at_83) (XS.iload X5.here hx rfl (hb hby at_84) rfl k)))) ?_
  obtain ⟨T6, h6, X6, e6, W6, V6, st6⟩ := own_stI X5 hx hZ e5 V_b5 (j := (0 : Int32)) ⟨by decide, by decide⟩ 0 rfl (Nat.le_of_ble_eq_true rfl) (g := (mkF m 86 #[.val (.int p0), .val (.int p1), .val (.int p2), .val (.int p3), .val (.int zf0), .val (.int zf1), .val (.int zf2), .val (.int zd0), .val (.int zd1), .val (.int zd2), .val (.ref b1), .unset, .unset, .unset] [(.int zf0), (.int (0 : Int32)), (.ref b5), (.ref b5)])) rfl rfl (hb hby at_86)
  have K6 : Keep h0 h6 [] := K5.wr W6 (Or.inr sz_b5)
  have N6 := Fr.snoc X6 N4 n_b5
  refine own_go (T' := T6) (f' := (mkF m 91 #[.val (.int p0), .val (.int p1), .val (.int p2), .val (.int p3), .val (.int zf0), .val (.int zf1), .val (.int zf2), .val (.int zd0), .val (.int zd1), .val (.int zd2), .val (.ref b1), .unset, .unset, .unset] [(.int zf1), (.int (1 : Int32)), (.ref b5), (.ref b5)])) (fun _ k => st6 _ (XS.dup X6.here hx rfl (hb hby at_87) rfl rfl (XS.iconst X6.here hx rfl (hb hby at_88) (XS.iload X6.here hx rfl (hb hby at_89) rfl k)))) ?_
  obtain ⟨T7, h7, X7, e7, W7, V7, st7⟩ := own_stI X6 hx hZ e6 V6 (j := (1 : Int32)) ⟨by decide, by decide⟩ 1 rfl (Nat.le_of_ble_eq_true rfl) (g := (mkF m 91 #[.val (.int p0), .val (.int p1), .val (.int p2), .val (.int p3), .val (.int zf0), .val (.int zf1), .val (.int zf2), .val (.int zd0), .val (.int zd1), .val (.int zd2), .val (.ref b1), .unset, .unset, .unset] [(.int zf1), (.int (1 : Int32)), (.ref b5), (.ref b5)])) rfl rfl (hb hby at_91)
  have K7 : Keep h0 h7 [] := K6.wr W7 (Or.inr sz_b5)
  have N7 := Fr.snoc X7 N6 n_b5
  refine own_go (T' := T7) (f' := (mkF m 96 #[.val (.int p0), .val (.int p1), .val (.int p2), .val (.int p3), .val (.int zf0), .val (.int zf1), .val (.int zf2), .val (.int zd0), .val (.int zd1), .val (.int zd2), .val (.ref b1), .unset, .unset, .unset] [(.int zf2), (.int (2 : Int32)), (.ref b5), (.ref b5)])) (fun _ k => st7 _ (XS.dup X7.here hx rfl (hb hby at_92) rfl rfl (XS.iconst X7.here hx rfl (hb hby at_93) (XS.iload X7.here hx rfl (hb hby at_94) rfl k)))) ?_
  obtain ⟨T8, h8, X8, e8, W8, V8, st8⟩ := own_stI X7 hx hZ e7 V7 (j := (2 : Int32)) ⟨by decide, by decide⟩ 2 rfl (Nat.le_of_ble_eq_true rfl) (g := (mkF m 96 #[.val (.int p0), .val (.int p1), .val (.int p2), .val (.int p3), .val (.int zf0), .val (.int zf1), .val (.int zf2), .val (.int zd0), .val (.int zd1), .val (.int zd2), .val (.ref b1), .unset, .unset, .unset] [(.int zf2), (.int (2 : Int32)), (.ref b5), (.ref b5)])) rfl rfl (hb hby at_96)
  have K8 : Keep h0 h8 [] := K7.wr W8 (Or.inr sz_b5)
  have N8 := Fr.snoc X8 N7 n_b5
  refine own_go (T' := T8) (f' := (mkF m 106 #[.val (.int p0), .val (.int p1), .val (.int p2), .val (.int p3), .val (.int zf0), .val (.int zf1), .val (.int zf2), .val (.int zd0), .val (.int zd1), .val (.int zd2), .val (.ref b1), .val (.ref b5), .unset, .unset] [(.int zf2), (.int (zf0 + zf1))])) (fun _ k => st8 _ (XS.astore X8.here hx rfl (hb hby at_97) rfl rfl (l' := #[.val (.int p0), .val (.int p1), .val (.int p2), .val (.int p3), .val (.int zf0), .val (.int zf1), .val (.int zf2), .val (.int zd0), .val (.int zd1), .val (.int zd2), .val (.ref b1), .val (.ref b5), .unset, .unset]) rfl (XS.iload X8.here hx rfl (hb hby at_99) rfl (XS.iload X8.here hx rfl (hb hby at_101) rfl (XS.iadd X8.here hx rfl (hb hby at_103) rfl (XS.iload X8.here hx rfl (hb hby at_104) rfl k)))))) ?_
  refine own_go (T' := T8) (f' := (mkF m 107 #[.val (.int p0), .val (.int p1), .val (.int p2), .val (.int p3), .val (.int zf0), .val (.int zf1), .val (.int zf2), .val (.int zd0), .val (.int zd1), .val (.int zd2), .val (.ref b1), .val (.ref b5), .unset, .unset] [(.int ((zf0 + zf1) + zf2))])) (fun _ k => XS.iadd X8.here hx rfl (hb hby at_106) rfl k) ?_
  obtain ⟨T9, h9, k9, X9, e9, E9, A9, st9⟩ := newP (aty := .int) X8 hx hZ (ow1 hw) e8 (g := (mkF m 107 #[.val (.int p0), .val (.int p1), .val (.int p2), .val (.int p3), .val (.int zf0), .val (.int zf1), .val (.int zf2), .val (.int zd0), .val (.int zd1), .val (.int zd2), .val (.ref b1), .val (.ref b5), .unset, .unset] [(.int ((zf0 + zf1) + zf2))])) rfl (hb hby at_107) rfl (own_sum bf0 bf1 bf2).1 (cap := 768) (own_sum bf0 bf1 bf2).2 (by decide) (by decide) (by decide)
  obtain ⟨b9, g_b9⟩ : ∃ z, z = h8.size := ⟨_, rfl⟩
  have sg_b9 : h8.size ≤ b9 := Nat.le_of_eq g_b9.symm
  rw [← g_b9] at A9 st9
  have n_b9 : n0 ≤ b9 := Nat.le_trans (Nat.le_trans (Nat.le_trans (Nat.le_trans (Nat.le_trans (Nat.le_trans (Nat.le_trans (Nat.le_trans (Nat.le_trans Z0 E1.1) (Keep.of_wr W2).1) (Keep.of_wr W3).1) (Keep.of_wr W4).1) E5.1) (Keep.of_wr W6).1) (Keep.of_wr W7).1) (Keep.of_wr W8).1) (Nat.le_of_eq g_b9.symm)
  have sz_b9 : h0.size ≤ b9 := Nat.le_trans K8.1 (Nat.le_of_eq g_b9.symm)
  have K9 : Keep h0 h9 [] := K8.ext E9
  have V_b9 : Arv Z h9 b9 k9 .int ((zf0 + zf1) + zf2) [] (.int (0 : Int32)) := Arv.new A9 (own_sum bf0 bf1 bf2).1
  refine own_go (T' := T9) (f' := (mkF m 111 #[.val (.int p0), .val (.int p1), .val (.int p2), .val (.int p3), .val (.int zf0), .val (.int zf1), .val (.int zf2), .val (.int zd0), .val (.int zd1), .val (.int zd2), .val (.ref b1), .val (.ref b5), .val (.ref b9), .unset] [])) (fun _ k => st9 _ (XS.astore X9.here hx rfl (hb hby at_109) rfl rfl (l' := #[.val (.int p0), .val (.int p1), .val (.int p2), .val (.int p3), .val (.int zf0), .val (.int zf1), .val (.int zf2), .val (.int zd0), .val (.int zd1), .val (.int zd2), .val (.ref b1), .val (.ref b5), .val (.ref b9), .unset]) rfl k)) ?_
  obtain ⟨T10, h10, X10, e10, E10, A10, D10, -, st10⟩ := newO X9 hx hZ hown (ow2 hw) (ow3 hw) (ow4 hw) e9 (g := (mkF m 111 #[.val (.int p0), .val (.int p1), .val (.int p2), .val (.int p3), .val (.int zf0), .val (.int zf1), .val (.int zf2), .val (.int zd0), .val (.int zd1), .val (.int zd2), .val (.ref b1), .val (.ref b5), .val (.ref b9), .unset] [])) rfl (hb hby at_111) (by decide) (by decide)
  obtain ⟨b10, g_b10⟩ : ∃ z, z = h9.size := ⟨_, rfl⟩
  have sg_b10 : h9.size ≤ b10 := Nat.le_of_eq g_b10.symm
  rw [← g_b10] at A10 D10 st10
  have n_b10 : n0 ≤ b10 := Nat.le_trans (Nat.le_trans (Nat.le_trans (Nat.le_trans (Nat.le_trans (Nat.le_trans (Nat.le_trans (Nat.le_trans (Nat.le_trans (Nat.le_trans Z0 E1.1) (Keep.of_wr W2).1) (Keep.of_wr W3).1) (Keep.of_wr W4).1) E5.1) (Keep.of_wr W6).1) (Keep.of_wr W7).1) (Keep.of_wr W8).1) E9.1) (Nat.le_of_eq g_b10.symm)
  have sz_b10 : h0.size ≤ b10 := Nat.le_trans K9.1 (Nat.le_of_eq g_b10.symm)
  have K10 : Keep h0 h10 [] := K9.ext E10
  have F_documents_b10 : Fld Z h10 b10 "com/example/feedback/feedback/index/Postings" "documents" "[I" .null := D10 (Or.inr (ow12 hw)) (ty := (.array .int)) (by decide)
  have F_positions_b10 : Fld Z h10 b10 "com/example/feedback/feedback/index/Postings" "positions" "[I" .null := D10 (Or.inr (ow14 hw)) (ty := (.array .int)) (by decide)
  have F_positionStarts_b10 : Fld Z h10 b10 "com/example/feedback/feedback/index/Postings" "positionStarts" "[I" .null := D10 (Or.inr (ow16 hw)) (ty := (.array .int)) (by decide)
  refine own_go (T' := T10) (f' := (mkF m 121 #[.val (.int p0), .val (.int p1), .val (.int p2), .val (.int p3), .val (.int zf0), .val (.int zf1), .val (.int zf2), .val (.int zd0), .val (.int zd1), .val (.int zd2), .val (.ref b1), .val (.ref b5), .val (.ref b9), .unset] [(.ref b9), (.ref b5), (.ref b1), (.ref b10), (.ref b10)])) (fun _ k => st10 _ (XS.dup X10.here hx rfl (hb hby at_114) rfl rfl (XS.aload X10.here hx rfl (hb hby at_115) rfl rfl (XS.aload X10.here hx rfl (hb hby at_117) rfl rfl (XS.aload X10.here hx rfl (hb hby at_119) rfl rfl k))))) ?_
  obtain ⟨_, _, ⟨T11, L11, k11, n11⟩, -, X11, ⟨Lc11, hQ11, l11, y11, z11⟩, st11⟩ := X10.specialBack hx (y := mn0) rfl hown (mvT hZ (ow5 hw)) (mvT hZ (ow6 hw)) (mvT hZ (ow7 hw)) (by decide) (backOf (W := 1) (rm1 l Z a0 hw [] b10 b1 b5 b9 _ _ _ k1 k5 zd0 zd1 zd2 zf0 zf1 zf2 h10 n0 (Nat.le_trans (Nat.le_trans (Nat.le_trans (Nat.le_trans (Nat.le_trans (Nat.le_trans (Nat.le_trans (Nat.le_trans (Nat.le_trans (Nat.le_trans Z0 E1.1) (Keep.of_wr W2).1) (Keep.of_wr W3).1) (Keep.of_wr W4).1) E5.1) (Keep.of_wr W6).1) (Keep.of_wr W7).1) (Keep.of_wr W8).1) E9.1) E10.1) A10 n_b10 F_documents_b10 F_positions_b10 F_positionStarts_b10 ((((((V4.ext E5).other W6 (Nat.ne_of_lt (Nat.lt_of_lt_of_le (Nat.lt_of_lt_of_le (Nat.lt_of_lt_of_le (Nat.lt_of_lt_of_le V_b1.lt (Keep.of_wr W2).1) (Keep.of_wr W3).1) (Keep.of_wr W4).1) sg_b5))).other W7 (Nat.ne_of_lt (Nat.lt_of_lt_of_le (Nat.lt_of_lt_of_le (Nat.lt_of_lt_of_le (Nat.lt_of_lt_of_le V_b1.lt (Keep.of_wr W2).1) (Keep.of_wr W3).1) (Keep.of_wr W4).1) sg_b5))).other W8 (Nat.ne_of_lt (Nat.lt_of_lt_of_le (Nat.lt_of_lt_of_le (Nat.lt_of_lt_of_le (Nat.lt_of_lt_of_le V_b1.lt (Keep.of_wr W2).1) (Keep.of_wr W3).1) (Keep.of_wr W4).1) sg_b5))).ext E9).ext E10) ((V8.ext E9).ext E10) (Nat.ne_of_lt (Nat.lt_of_lt_of_le (Nat.lt_of_lt_of_le (Nat.lt_of_lt_of_le (Nat.lt_of_lt_of_le (Nat.lt_of_lt_of_le (Nat.lt_of_lt_of_le (Nat.lt_of_lt_of_le (Nat.lt_of_lt_of_le (Nat.lt_of_lt_of_le V_b1.lt (Keep.of_wr W2).1) (Keep.of_wr W3).1) (Keep.of_wr W4).1) E5.1) (Keep.of_wr W6).1) (Keep.of_wr W7).1) (Keep.of_wr W8).1) E9.1) sg_b10)) (Nat.ne_of_lt (Nat.lt_of_lt_of_le (Nat.lt_of_lt_of_le (Nat.lt_of_lt_of_le (Nat.lt_of_lt_of_le (Nat.lt_of_lt_of_le V_b5.lt (Keep.of_wr W6).1) (Keep.of_wr W7).1) (Keep.of_wr W8).1) E9.1) sg_b10))) hZ (ow7 hw) (ow4 hw) (by decide) (by decide)) (g := (mkF m 121 #[.val (.int p0), .val (.int p1), .val (.int p2), .val (.int p3), .val (.int zf0), .val (.int zf1), .val (.int zf2), .val (.int zd0), .val (.int zd1), .val (.int zd2), .val (.ref b1), .val (.ref b5), .val (.ref b9), .unset] [(.ref b9), (.ref b5), (.ref b1), (.ref b10), (.ref b10)])) rfl (by rw [hml]; rfl) (Steps.refl _) (a := b10) (argsL := [(.ref b1), (.ref b5), (.ref b9)]) (rest := [(.ref b10)]) (lenOf pd3 rfl) rfl (by show 2 * 0 + _ ≤ _; exact Nat.le_of_eq rfl) (hb hby at_121) (fun _ _ => ⟨rfl, e10, (by decide : 4 + 1 ≤ _), (by decide : 777 + 4 ≤ _)⟩)
  dsimp only [Pt.U, Pt.locs, Pt.cells, Pt.slots] at X11 l11 y11 z11 st11 hQ11
  subst l11 y11 z11
  obtain ⟨rfl, N11q, K11, gE11, gD11, b11, kb11, gP11, gV11⟩ := hQ11
  have N11 := Fr.app N8 N11q
  have KK11 : Keep h0 T11.heap [] := Keep.trans K10 K11 (allS (Or.inr sz_b10) all0)
  refine own_go (T' := T11) (f' := (mkF m 128 #[.val (.int p0), .val (.int p1), .val (.int p2), .val (.int p3), .val (.int zf0), .val (.int zf1), .val (.int zf2), .val (.int zd0), .val (.int zd1), .val (.int zd2), .val (.ref b1), .val (.ref b5), .val (.ref b9), .val (.ref b10)] [(.ref b10)])) (fun _ k => st11.trans (XS.astore X11.here hx rfl (hb hby at_124) rfl rfl (l' := #[.val (.int p0), .val (.int p1), .val (.int p2), .val (.int p3), .val (.int zf0), .val (.int zf1), .val (.int zf2), .val (.int zd0), .val (.int zd1), .val (.int zd2), .val (.ref b1), .val (.ref b5), .val (.ref b9), .val (.ref b10)]) rfl (XS.aload X11.here hx rfl (hb hby at_126) rfl rfl k))) ?_
  obtain ⟨cq12, kq12, q12a, q12b, q12c⟩ := isOf hZ rfl gE11
  obtain ⟨_, _, ⟨T12, L12, k12, n12⟩, -, X12, ⟨Lc12, hQ12, l12, y12, z12⟩, st12⟩ := X11.virtualBack hx (y := mn1) (z := mn1) hown (mvT hZ (ow17 hw)) (mvT hZ (ow18 hw)) (notFace_of_selects (args := #[]) (mvT hZ (ow20 hw))) (mvT hZ (ow20 hw)) (mvT hZ (ow19 hw)) (by decide) (backOf (W := 0) (rm3 l Z a0 hw [] b10 _ _ _ T11.heap n0 (Nat.le_trans (Nat.le_trans (Nat.le_trans (Nat.le_trans (Nat.le_trans (Nat.le_trans (Nat.le_trans (Nat.le_trans (Nat.le_trans (Nat.le_trans (Nat.le_trans Z0 E1.1) (Keep.of_wr W2).1) (Keep.of_wr W3).1) (Keep.of_wr W4).1) E5.1) (Keep.of_wr W6).1) (Keep.of_wr W7).1) (Keep.of_wr W8).1) E9.1) E10.1) K11.1) gD11 (((((((V4.ext E5).other W6 (Nat.ne_of_lt (Nat.lt_of_lt_of_le (Nat.lt_of_lt_of_le (Nat.lt_of_lt_of_le (Nat.lt_of_lt_of_le V_b1.lt (Keep.of_wr W2).1) (Keep.of_wr W3).1) (Keep.of_wr W4).1) sg_b5))).other W7 (Nat.ne_of_lt (Nat.lt_of_lt_of_le (Nat.lt_of_lt_of_le (Nat.lt_of_lt_of_le (Nat.lt_of_lt_of_le V_b1.lt (Keep.of_wr W2).1) (Keep.of_wr W3).1) (Keep.of_wr W4).1) sg_b5))).other W8 (Nat.ne_of_lt (Nat.lt_of_lt_of_le (Nat.lt_of_lt_of_le (Nat.lt_of_lt_of_le (Nat.lt_of_lt_of_le V_b1.lt (Keep.of_wr W2).1) (Keep.of_wr W3).1) (Keep.of_wr W4).1) sg_b5))).ext E9).ext E10).keep K11 (ninS (Nat.ne_of_lt (Nat.lt_of_lt_of_le (Nat.lt_of_lt_of_le (Nat.lt_of_lt_of_le (Nat.lt_of_lt_of_le (Nat.lt_of_lt_of_le (Nat.lt_of_lt_of_le (Nat.lt_of_lt_of_le (Nat.lt_of_lt_of_le (Nat.lt_of_lt_of_le V_b1.lt (Keep.of_wr W2).1) (Keep.of_wr W3).1) (Keep.of_wr W4).1) E5.1) (Keep.of_wr W6).1) (Keep.of_wr W7).1) (Keep.of_wr W8).1) E9.1) sg_b10)) nin0))) hZ (ow21 hw) (ow4 hw) (by decide) (by decide)) q12a q12c (g := (mkF m 128 #[.val (.int p0), .val (.int p1), .val (.int p2), .val (.int p3), .val (.int zf0), .val (.int zf1), .val (.int zf2), .val (.int zd0), .val (.int zd1), .val (.int zd2), .val (.ref b1), .val (.ref b5), .val (.ref b9), .val (.ref b10)] [(.ref b10)])) rfl (by rw [hml]; rfl) (Steps.refl _) (argsL := []) (rest := []) (lenOf pd0 rfl) rfl (by show 2 * 0 + _ ≤ _; exact Nat.le_of_eq rfl) (hb hby at_128) (fun _ _ => ⟨rfl, rfl, (by decide : 5 + 0 ≤ _), (by decide : 781 + 0 ≤ _)⟩)
  dsimp only [Pt.U, Pt.locs, Pt.cells, Pt.slots] at X12 l12 y12 z12 st12 hQ12
  subst l12 y12 z12
  obtain ⟨rfl, N12q, hh12⟩ := hQ12
  have N12 := Fr.app N11 N12q
  refine own_go (T' := T12) (f' := (mkF m 138 #[.val (.int p0), .val (.int p1), .val (.int p2), .val (.int p3), .val (.int zf0), .val (.int zf1), .val (.int zf2), .val (.int zd0), .val (.int zd1), .val (.int zd2), .val (.ref b1), .val (.ref b5), .val (.ref b9), .val (.ref b10)] [(.int (0 : Int32)), (.ref b10)])) (fun _ k => st12.trans (XS.iconst X12.here hx rfl (hb hby at_131) (XS.icmpNo X12.here hx rfl (hb hby at_132) rfl (teq (by decide : ((3 : Int32) = (3 : Int32)))).2 (XS.aload X12.here hx rfl (hb hby at_135) rfl rfl (XS.iconst X12.here hx rfl (hb hby at_137) k))))) ?_
  obtain ⟨cq13, kq13, q13a, q13b, q13c⟩ := isOf hZ hh12 gE11
  obtain ⟨_, _, ⟨T13, L13, k13, n13⟩, -, X13, ⟨Lc13, hQ13, l13, y13, z13⟩, st13⟩ := X12.virtualBack hx (y := mn2) (z := mn2) hown (mvT hZ (ow22 hw)) (mvT hZ (ow23 hw)) (notFace_of_selects (args := #[]) (mvT hZ (ow25 hw))) (mvT hZ (ow25 hw)) (mvT hZ (ow24 hw)) (by decide) (backOf (W := 0) (rm4_0 l Z a0 hw [] b10 _ _ (0 : Int32) ((0 : Int32) + zf0) (((0 : Int32) + zf0) + zf1) ((((0 : Int32) + zf0) + zf1) + zf2) T11.heap n0 (Nat.le_trans (Nat.le_trans (Nat.le_trans (Nat.le_trans (Nat.le_trans (Nat.le_trans (Nat.le_trans (Nat.le_trans (Nat.le_trans (Nat.le_trans (Nat.le_trans Z0 E1.1) (Keep.of_wr W2).1) (Keep.of_wr W3).1) (Keep.of_wr W4).1) E5.1) (Keep.of_wr W6).1) (Keep.of_wr W7).1) (Keep.of_wr W8).1) E9.1) E10.1) K11.1) gP11 gV11) hZ (ow26 hw) (ow4 hw) (by decide) (by decide)) q13a q13c (g := (mkF m 138 #[.val (.int p0), .val (.int p1), .val (.int p2), .val (.int p3), .val (.int zf0), .val (.int zf1), .val (.int zf2), .val (.int zd0), .val (.int zd1), .val (.int zd2), .val (.ref b1), .val (.ref b5), .val (.ref b9), .val (.ref b10)] [(.int (0 : Int32)), (.ref b10)])) rfl (by rw [hml]; rfl) (Steps.refl _) (argsL := [(.int (0 : Int32))]) (rest := []) (lenOf pd2 rfl) rfl (by show 2 * 0 + _ ≤ _; exact Nat.le_of_eq rfl) (hb hby at_138) (fun _ _ => ⟨rfl, hh12, (by decide : 5 + 0 ≤ _), (by decide : 781 + 0 ≤ _)⟩)
  dsimp only [Pt.U, Pt.locs, Pt.cells, Pt.slots] at X13 l13 y13 z13 st13 hQ13
  subst l13 y13 z13
  obtain ⟨rfl, N13q, hh13⟩ := hQ13
  have N13 := Fr.app N12 N13q
  refine own_go (T' := T13) (f' := (mkF m 149 #[.val (.int p0), .val (.int p1), .val (.int p2), .val (.int p3), .val (.int zf0), .val (.int zf1), .val (.int zf2), .val (.int zd0), .val (.int zd1), .val (.int zd2), .val (.ref b1), .val (.ref b5), .val (.ref b9), .val (.ref b10)] [(.int (1 : Int32)), (.ref b10)])) (fun _ k => st13.trans (XS.iload X13.here hx rfl (hb hby at_141) rfl (XS.icmpNo X13.here hx rfl (hb hby at_143) rfl (teq (own_g0 zf0)).2 (XS.aload X13.here hx rfl (hb hby at_146) rfl rfl (XS.iconst X13.here hx rfl (hb hby at_148) k))))) ?_
  obtain ⟨cq14, kq14, q14a, q14b, q14c⟩ := isOf hZ hh13 gE11
  obtain ⟨_, _, ⟨T14, L14, k14, n14⟩, -, X14, ⟨Lc14, hQ14, l14, y14, z14⟩, st14⟩ := X13.virtualBack hx (y := mn2) (z := mn2) hown (mvT hZ (ow22 hw)) (mvT hZ (ow23 hw)) (notFace_of_selects (args := #[]) (mvT hZ (ow25 hw))) (mvT hZ (ow25 hw)) (mvT hZ (ow24 hw)) (by decide) (backOf (W := 0) (rm4_1 l Z a0 hw [] b10 _ _ (0 : Int32) ((0 : Int32) + zf0) (((0 : Int32) + zf0) + zf1) ((((0 : Int32) + zf0) + zf1) + zf2) T11.heap n0 (Nat.le_trans (Nat.le_trans (Nat.le_trans (Nat.le_trans (Nat.le_trans (Nat.le_trans (Nat.le_trans (Nat.le_trans (Nat.le_trans (Nat.le_trans (Nat.le_trans Z0 E1.1) (Keep.of_wr W2).1) (Keep.of_wr W3).1) (Keep.of_wr W4).1) E5.1) (Keep.of_wr W6).1) (Keep.of_wr W7).1) (Keep.of_wr W8).1) E9.1) E10.1) K11.1) gP11 gV11) hZ (ow26 hw) (ow4 hw) (by decide) (by decide)) q14a q14c (g := (mkF m 149 #[.val (.int p0), .val (.int p1), .val (.int p2), .val (.int p3), .val (.int zf0), .val (.int zf1), .val (.int zf2), .val (.int zd0), .val (.int zd1), .val (.int zd2), .val (.ref b1), .val (.ref b5), .val (.ref b9), .val (.ref b10)] [(.int (1 : Int32)), (.ref b10)])) rfl (by rw [hml]; rfl) (Steps.refl _) (argsL := [(.int (1 : Int32))]) (rest := []) (lenOf pd2 rfl) rfl (by show 2 * 0 + _ ≤ _; exact Nat.le_of_eq rfl) (hb hby at_149) (fun _ _ => ⟨rfl, hh13, (by decide : 5 + 0 ≤ _), (by decide : 781 + 0 ≤ _)⟩)
  dsimp only [Pt.U, Pt.locs, Pt.cells, Pt.slots] at X14 l14 y14 z14 st14 hQ14
  subst l14 y14 z14
  obtain ⟨rfl, N14q, hh14⟩ := hQ14
  have N14 := Fr.app N13 N14q
  refine own_go (T' := T14) (f' := (mkF m 160 #[.val (.int p0), .val (.int p1), .val (.int p2), .val (.int p3), .val (.int zf0), .val (.int zf1), .val (.int zf2), .val (.int zd0), .val (.int zd1), .val (.int zd2), .val (.ref b1), .val (.ref b5), .val (.ref b9), .val (.ref b10)] [(.int (2 : Int32)), (.ref b10)])) (fun _ k => st14.trans (XS.iload X14.here hx rfl (hb hby at_152) rfl (XS.icmpNo X14.here hx rfl (hb hby at_154) rfl (teq (own_g1 zf0 zf1)).2 (XS.aload X14.here hx rfl (hb hby at_157) rfl rfl (XS.iconst X14.here hx rfl (hb hby at_159) k))))) ?_
  obtain ⟨cq15, kq15, q15a, q15b, q15c⟩ := isOf hZ hh14 gE11
  obtain ⟨_, _, ⟨T15, L15, k15, n15⟩, -, X15, ⟨Lc15, hQ15, l15, y15, z15⟩, st15⟩ := X14.virtualBack hx (y := mn2) (z := mn2) hown (mvT hZ (ow22 hw)) (mvT hZ (ow23 hw)) (notFace_of_selects (args := #[]) (mvT hZ (ow25 hw))) (mvT hZ (ow25 hw)) (mvT hZ (ow24 hw)) (by decide) (backOf (W := 0) (rm4_2 l Z a0 hw [] b10 _ _ (0 : Int32) ((0 : Int32) + zf0) (((0 : Int32) + zf0) + zf1) ((((0 : Int32) + zf0) + zf1) + zf2) T11.heap n0 (Nat.le_trans (Nat.le_trans (Nat.le_trans (Nat.le_trans (Nat.le_trans (Nat.le_trans (Nat.le_trans (Nat.le_trans (Nat.le_trans (Nat.le_trans (Nat.le_trans Z0 E1.1) (Keep.of_wr W2).1) (Keep.of_wr W3).1) (Keep.of_wr W4).1) E5.1) (Keep.of_wr W6).1) (Keep.of_wr W7).1) (Keep.of_wr W8).1) E9.1) E10.1) K11.1) gP11 gV11) hZ (ow26 hw) (ow4 hw) (by decide) (by decide)) q15a q15c (g := (mkF m 160 #[.val (.int p0), .val (.int p1), .val (.int p2), .val (.int p3), .val (.int zf0), .val (.int zf1), .val (.int zf2), .val (.int zd0), .val (.int zd1), .val (.int zd2), .val (.ref b1), .val (.ref b5), .val (.ref b9), .val (.ref b10)] [(.int (2 : Int32)), (.ref b10)])) rfl (by rw [hml]; rfl) (Steps.refl _) (argsL := [(.int (2 : Int32))]) (rest := []) (lenOf pd2 rfl) rfl (by show 2 * 0 + _ ≤ _; exact Nat.le_of_eq rfl) (hb hby at_160) (fun _ _ => ⟨rfl, hh14, (by decide : 5 + 0 ≤ _), (by decide : 781 + 0 ≤ _)⟩)
  dsimp only [Pt.U, Pt.locs, Pt.cells, Pt.slots] at X15 l15 y15 z15 st15 hQ15
  subst l15 y15 z15
  obtain ⟨rfl, N15q, hh15⟩ := hQ15
  have N15 := Fr.app N14 N15q
  refine own_go (T' := T15) (f' := (mkF m 173 #[.val (.int p0), .val (.int p1), .val (.int p2), .val (.int p3), .val (.int zf0), .val (.int zf1), .val (.int zf2), .val (.int zd0), .val (.int zd1), .val (.int zd2), .val (.ref b1), .val (.ref b5), .val (.ref b9), .val (.ref b10)] [(.int (1 : Int32))])) (fun _ k => st15.trans (XS.iload X15.here hx rfl (hb hby at_163) rfl (XS.icmpNo X15.here hx rfl (hb hby at_165) rfl (teq (own_g2 zf0 zf1 zf2)).2 (XS.iconst X15.here hx rfl (hb hby at_168) (XS.goto X15.here hx rfl (pc0 := 169) (pc' := 173) rfl (hb hby at_169) (by decide) (by decide) k))))) ?_
  refine own_ret X15 (v := some (.int (1 : Int32))) (fun h => by rw [Bd.returns] at h; cases h) Bd.notSynchronized (fun fs hr => retN X15 hx (t := .boolean) Bd.returns (by simp) (hb hby at_173) hr) ?_ (by decide) (by decide)
  show Q0 Z p0 p1 p2 p3 h0 n0 _ T15.heap _
  exact ⟨rfl, N15⟩
set_option maxRecDepth 65536 in
set_option maxHeartbeats 40000000 in
theorem comes_1 {Post : Tables → Env → Array Value → State → Outcome → State → Prop} (hpost : ∀ tb e args s v u, (limb_1_1.after args s (.returned v) u = true ∧ limb_1_2.after args s (.returned v) u = true ∧ True) → FrameEnd s (.returned v) u (Jvm.fieldLocs frame_1_writes args s ++ Jvm.arrayLocs frame_1_arrays args s ++ Jvm.staticLocs frame_1_statics s) 24 1664 → Post tb e args s (.returned v) u) :
    ArmFor flags0 classFile x code maxLocals ret World_1 tables_1 room_1 Calls_1 rest_1 Pre_1 Post := by
  intro l hfl _ _ p e ha hc hk s m args below hf hA hF happ hP
  obtain ⟨hcalls, hrest, hpre⟩ := hP
  obtain ⟨-, -, -, hnamed, -, -, -, hat⟩ := (Spec.applies_iff hf).mp happ
  obtain ⟨hg, hn⟩ := and_e (Cond.before_iff.mp (show (Jvm.Cond.and given_1 narrow_1).before args s = true from hpre))
  obtain ⟨hg_2, hg_3⟩ := and_e hg
  obtain ⟨hg_4, hg_5⟩ := and_e hg_3
  obtain ⟨hg_6, hg_7⟩ := and_e hg_5
  obtain ⟨hg_8, hg_9⟩ := and_e hg_7
  obtain ⟨w0, w1, w2, w3, rfl⟩ : ∃ w0 w1 w2 w3 : Value, args = #[w0, w1, w2, w3] := by
    have hs : args.size = 4 := by simpa [Cond.value, given_1] using hg_2
    obtain ⟨L⟩ := args
    match L, hs with
    | [w0, w1, w2, w3], _ => exact ⟨w0, w1, w2, w3, rfl⟩
  have hw := fun d (hd : d ∈ tables_1) => atoms_spec (ws := Jvm.Cond.code x code maxLocals ret :: tables_1) hat d (List.mem_cons_of_mem _ hd)
  have hfit : Fit s := fun {y c} hc i hi => by
    obtain ⟨ha, rfl⟩ := Array.getElem?_eq_some_iff.mp hc
    have q := List.all_eq_true.mp ((Array.all_eq_true_iff_forall_mem.mp hF) _ (Array.getElem_mem ha)) i (List.mem_range.mpr hi)
    simpa [Array.getElem?_eq_getElem hi] using q
  obtain ⟨i0, ei0⟩ := is_v hg_4
  obtain rfl : w0 = (.int i0) := Option.some.inj ei0
  obtain ⟨i1, ei1⟩ := is_v hg_6
  obtain rfl : w1 = (.int i1) := Option.some.inj ei1
  obtain ⟨i2, ei2⟩ := is_v hg_8
  obtain rfl : w2 = (.int i2) := Option.some.inj ei2
  obtain ⟨i3, ei3⟩ := is_v hg_9
  obtain rfl : w3 = (.int i3) := Option.some.inj ei3
  obtain ⟨n, o, h1, h2, h3, _, L, rfl, ⟨rfl, N⟩, hq⟩ := rm0 l s _ hw tables_1 i0 i1 i2 i3 s.heap s.heap.size (Nat.le_refl _) p e ha hc hk s m _ below hf ((Spec.applies_iff_loose hf).mp happ).1 ⟨rfl, State.Warmed39.refl s, rfl⟩ trivial
  refine ⟨n, _, h1, h2, h3, hpost _ _ _ _ _ _ ⟨Cond.after_iff.mpr rfl, Cond.after_iff.mpr (eq_i res_at (Term.int_eval (1)) rfl), trivial⟩ ⟨hq.1, hq.2.1, (hq.2.2.sift fun y hy => Or.inr (N y hy)).mono (by decide) (by decide)⟩⟩
theorem main_1_1 : Claimed_1_1 := comes_1 fun _ _ _ _ _ _ h hF => ⟨h.1, hF⟩
theorem main_1_2 : Claimed_1_2 := comes_1 fun _ _ _ _ _ _ h hF => ⟨h.2.1, hF⟩
end Jvm.Pilot.@@N@@
namespace Jvm.Pilot.@@N@@
open Jvm Jvm.ClassFile Sem Op Lib Jvm.Free Jvm.Stand Jvm.Pilot.@@N@@.Jvm.D
/-! MADE BY PROGRAM (witnessworld.py) out of the Statement's table words and the real class files: 9 classes; the members and pool entries that the words name. The judged class is class 1, her method 1. -/
namespace start1
open Jvm.ClassFile
def u (s : String) : CpInfo := .utf8 (stringToUtf16 s)
/-- a pool by its gaps: so many unusable entries, then the entry; so many at the end -/
def gap : Nat → List CpInfo → List CpInfo
  | 0, r => r
  | n + 1, r => .unusable :: gap n r
def poolList (es : List (Nat × CpInfo)) (last : Nat) : List CpInfo := es.foldr (fun e r => gap e.1 (e.2 :: r)) (gap last [])
def pool (es : List (Nat × CpInfo)) (last : Nat) : Array CpInfo := ⟨poolList es last⟩
def fileOf (pool : Array CpInfo) (this : Nat) (attrs : Array Attribute := #[]) (ms : Array MethodInfo := #[]) (fl : Nat := 33) (sup : Nat := 0) (ifs : Array Nat := #[]) (fds : Array FieldInfo := #[]) : ClassFile where
  minorVersion := 0
  majorVersion := 65
  constantPool := pool
  accessFlags := fl
  thisClass := this
  superClass := sup
  interfaces := ifs
  fields := fds
  methods := ms
  attributes := attrs
def plain (name : String) (sup : Option ClassId) : Class where
  name := name
  kind := .ordinary
  loader := none
  accessFlags := 33
  super := sup
  interfaces := #[]
  cf := none
  fields := #[]
  methods := #[]
  instanceTypes := #[]
  staticTypes := #[]
  resolved := #[]
  callSites := []
  init := .initialized
  statics := none
  mirror := none

def pool0 : Array CpInfo := pool [(5, u "<init>"), (0, u "()V"), (1, .class_ 10), (1, u "java/lang/Object")] 113

def k0c0 : Code := { maxStack := 0, maxLocals := 1, code := object_method_1_code, exceptionTable := #[], attributes := #[] }
def k0m0 : Method := { name := "<init>", desc := "()V", sig := { parameters := [], returnType := none }, accessFlags := 1, code := some k0c0 }
/-- java/lang/Object -/
def k0 : Class := { plain "java/lang/Object" none with
  accessFlags := 33
  interfaces := #[]
  cf := some (fileOf pool0 8 #[] #[{ accessFlags := 1, nameIndex := 5, descriptorIndex := 6, attributes := #[] }] 33 0 #[] #[])
  fields := #[]
  methods := #[k0m0]
  instanceTypes := #[]
  staticTypes := #[]
  resolved := Array.replicate 124 none
  statics := none }

def pool1 : Array CpInfo := pool [(2, .class_ 4), (1, u "java/lang/Object"), (0, u "<init>"), (0, u "()V"), (0, .integer 65535), (0, .class_ 9), (0, u "com/example/feedback/feedback/index/Postings"), (0, .methodref 8 11), (0, .nameAndType 5 12), (0, u "([I[I[I)V"), (0, .methodref 8 14), (0, .nameAndType 15 16), (0, u "size"), (0, u "()I"), (0, .methodref 8 18), (0, .nameAndType 19 20), (0, u "frequency"), (0, u "(I)I"), (0, .class_ 22), (0, u "com/example/feedback/feedback/index/PostingsFrequencyPinLaw"), (2, u "law"), (0, u "(IIII)Z")] 5

def k1m0 : Method := { name := "<init>", desc := "()V", sig := { parameters := [], returnType := none }, accessFlags := 1, code := none }
def k1c1 : Code := { maxStack := 5, maxLocals := 14, code := code, exceptionTable := #[], attributes := #[] }
def k1m1 : Method := { name := "law", desc := "(IIII)Z", sig := { parameters := [.int, .int, .int, .int], returnType := some .boolean }, accessFlags := 9, code := some k1c1 }
/-- com/example/feedback/feedback/index/PostingsFrequencyPinLaw -/
def k1 : Class := { plain "com/example/feedback/feedback/index/PostingsFrequencyPinLaw" (some 0) with
  accessFlags := 49
  interfaces := #[]
  cf := some (fileOf pool1 21 #[] #[{ accessFlags := 1, nameIndex := 5, descriptorIndex := 6, attributes := #[] }, { accessFlags := 9, nameIndex := 25, descriptorIndex := 26, attributes := #[] }] 49 2 #[] #[])
  fields := #[]
  methods := #[k1m0, k1m1]
  instanceTypes := #[]
  staticTypes := #[]
  resolved := Array.replicate 32 none
  statics := none }

def pool2 : Array CpInfo := pool [(1, .methodref 2 3), (0, .class_ 4), (0, .nameAndType 5 6), (0, u "java/lang/Object"), (0, u "<init>"), (0, u "()V"), (0, .fieldref 8 9), (0, .class_ 10), (0, .nameAndType 11 12), (0, u "com/example/feedback/feedback/index/Postings"), (0, u "documents"), (0, u "[I"), (0, .fieldref 8 14), (0, .nameAndType 15 12), (0, u "positions"), (0, .fieldref 8 17), (0, .nameAndType 18 12), (0, u "positionStarts"), (6, u "([I[I[I)V"), (4, u "size"), (0, u "()I"), (1, u "(I)I"), (0, u "frequency")] 3

def k2c0 : Code := { maxStack := 5, maxLocals := 5, code := prog_32_method_1_code, exceptionTable := #[], attributes := #[] }
def k2m0 : Method := { name := "<init>", desc := "([I[I[I)V", sig := { parameters := [(.array .int), (.array .int), (.array .int)], returnType := none }, accessFlags := 0, code := some k2c0 }
def k2c1 : Code := { maxStack := 1, maxLocals := 1, code := prog_32_method_2_code, exceptionTable := #[], attributes := #[] }
def k2m1 : Method := { name := "size", desc := "()I", sig := { parameters := [], returnType := some .int }, accessFlags := 1, code := some k2c1 }
def k2c2 : Code := { maxStack := 3, maxLocals := 2, code := prog_32_method_4_code, exceptionTable := #[], attributes := #[] }
def k2m2 : Method := { name := "frequency", desc := "(I)I", sig := { parameters := [.int], returnType := some .int }, accessFlags := 1, code := some k2c2 }
/-- com/example/feedback/feedback/index/Postings -/
def k2 : Class := { plain "com/example/feedback/feedback/index/Postings" (some 0) with
  accessFlags := 33
  interfaces := #[]
  cf := some (fileOf pool2 8 #[] #[{ accessFlags := 0, nameIndex := 5, descriptorIndex := 25, attributes := #[] }, { accessFlags := 1, nameIndex := 30, descriptorIndex := 31, attributes := #[] }, { accessFlags := 1, nameIndex := 34, descriptorIndex := 33, attributes := #[] }] 33 2 #[] #[{ accessFlags := 18, nameIndex := 11, descriptorIndex := 12, attributes := #[] }, { accessFlags := 18, nameIndex := 15, descriptorIndex := 12, attributes := #[] }, { accessFlags := 18, nameIndex := 18, descriptorIndex := 12, attributes := #[] }])
  fields := #[{ name := "documents", type := (.array .int), accessFlags := 18, slot := 0, constantValue := 0 }, { name := "positions", type := (.array .int), accessFlags := 18, slot := 1, constantValue := 0 }, { name := "positionStarts", type := (.array .int), accessFlags := 18, slot := 2, constantValue := 0 }]
  methods := #[k2m0, k2m1, k2m2]
  instanceTypes := #[(.array .int), (.array .int), (.array .int)]
  staticTypes := #[]
  resolved := Array.replicate 38 none
  statics := none }

def pool3 : Array CpInfo := pool [(1, u "java/lang/Cloneable"), (0, .class_ 1), (0, u "java/lang/Object"), (0, .class_ 3)] 3

/-- java/lang/Cloneable -/
def k3 : Class := { plain "java/lang/Cloneable" (some 0) with
  accessFlags := 1537
  interfaces := #[]
  cf := some (fileOf pool3 2 #[] #[] 1537 4 #[] #[])
  fields := #[]
  methods := #[]
  instanceTypes := #[]
  staticTypes := #[]
  resolved := Array.replicate 8 none
  statics := none }

def pool4 : Array CpInfo := pool [(1, u "java/io/Serializable"), (0, .class_ 1), (0, u "java/lang/Object"), (0, .class_ 3)] 3

/-- java/io/Serializable -/
def k4 : Class := { plain "java/io/Serializable" (some 0) with
  accessFlags := 1537
  interfaces := #[]
  cf := some (fileOf pool4 2 #[] #[] 1537 4 #[] #[])
  fields := #[]
  methods := #[]
  instanceTypes := #[]
  staticTypes := #[]
  resolved := Array.replicate 8 none
  statics := none }

/-- the primitive byte -/
def k5 : Class := { plain "byte" none with kind := .primitive 'B', accessFlags := 0x411 }
/-- [B -/
def k6 : Class := { plain "[B" (some 0) with kind := .array 5 .byte, interfaces := #[3, 4], accessFlags := 1041 }

/-- the primitive int -/
def k7 : Class := { plain "int" none with kind := .primitive 'I', accessFlags := 0x411 }
/-- [I -/
def k8 : Class := { plain "[I" (some 0) with kind := .array 7 .int, interfaces := #[3, 4], accessFlags := 1041 }

def heap : Heap := #[]
def classes : Array Class := #[k0, k1, k2, k3, k4, k5, k6, k7, k8]
def interned : List (Array UInt16 × Addr) := []
def slotsUsed : Nat := 0
def theMethod : MethodId := ⟨1, 1⟩
def args0 : Array Value := #[.int 1, .int 1, .int 1, .int 1]
def aboutOver (below : List Frame) : State where
  vm := { classes := classes, interned := interned.toArray }
  heap := heap
  slotsUsed := slotsUsed
  threads := #[{ frames := .invoking theMethod args0 :: below }]
def below0 : List Frame := [.native { method := ⟨0, 0⟩, args := #[] }]
def about1 : State := aboutOver below0
def p0 : Program := .bare "" "" ""
def e0 : Env := launch0.env 0 0 0
theorem w_frames : about1.frames = Frame.invoking theMethod args0 :: below0 := rfl
set_option maxRecDepth 65536 in
theorem w_args : argsFit about1.vm theMethod args0 = true := by decide +kernel
set_option maxRecDepth 65536 in
theorem w_heap : heapFits about1 = true := by decide +kernel
set_option maxRecDepth 65536 in
theorem w_runnable : about1.curStatus? = some .runnable := by decide +kernel
set_option maxRecDepth 65536 in
theorem w_alone : about1.alone = true := by decide +kernel
set_option maxRecDepth 65536 in
theorem w_named : about1.methodNamed? x = some theMethod := by decide +kernel
set_option maxRecDepth 65536 in
theorem w_hears : about1.hears theMethod below0 = true := by decide +kernel
set_option maxRecDepth 65536 in
theorem w_ripe : about1.ripe theMethod args0 below0 = true := by decide +kernel
theorem w_running : about1.status = .running := rfl
set_option maxRecDepth 65536 in
theorem w_room : about1.hasRoom e0.platform room_1 = true :=
  launch0.hasRoom_least _ room_1 (by decide +kernel) (by decide +kernel) (by decide +kernel) (by decide +kernel) (by decide +kernel) (by decide +kernel)
theorem allAtoms_all (ts : List Jvm.Cond) (a : Array Jvm.Value) (st : Jvm.State) : (allAtoms ts).before a st = ts.all (fun c => c.before a st) := by
  induction ts with
  | nil => rfl
  | cons c t ih =>
    show (Jvm.Cond.and c (allAtoms t)).before a st = _
    rw [Jvm.Cond.before_and, ih, List.all_cons]
def words1 : List Jvm.Cond := Jvm.Cond.code x code maxLocals ret :: tables_1
/-- a 'code' word, met by the world's own term for the bytes: nothing is compared byte by byte -/
theorem code_word {y : MethodName} {bytes : ByteArray} {mx : Nat} {rt : Option FieldType} {a : Array Value} {s : State} {m : MethodId} {meth : Method} {c : Code} (h1 : s.methodNamed? y = some m) (h2 : s.vm.method? m = some meth) (h3 : meth.code = some c) (h4 : c.code = bytes)
    (h5 : (c.maxLocals == mx && c.exceptionTable.isEmpty && decide (c.maxStack ≤ mostOperands) && decide (meth.sig.returnType = rt) && !meth.locks && decide (parseMethodDescriptor y.desc = some meth.sig)) = true) : (Jvm.Cond.code y bytes mx rt).before a s = true := by
  simp only [Bool.and_eq_true, beq_iff_eq, Bool.not_eq_true', decide_eq_true_eq] at h5
  obtain ⟨⟨⟨⟨⟨g1, g2⟩, g3⟩, g4⟩, g5⟩, g6⟩ := h5
  simp [Cond.before, Cond.holds, Cond.value, h1, h2, h3, h4, g1, g2, g3, g4, g5, g6]
def isCode : Jvm.Cond → Bool
  | .code _ _ _ _ => true
  | _ => false
theorem all_split {L : List Jvm.Cond} {P : Jvm.Cond → Bool} (h1 : L.all (fun c => isCode c || P c) = true) (h2 : ∀ c ∈ L.filter isCode, P c = true) : L.all P = true := by
  refine List.all_eq_true.mpr fun c hc => ?_
  have h := List.all_eq_true.mp h1 c hc
  rcases Bool.eq_false_or_eq_true (isCode c) with hi | hi
  · exact h2 c (List.mem_filter.mpr ⟨hc, hi⟩)
  · simpa [hi] using h
set_option maxRecDepth 65536 in
theorem w_c0 : (Jvm.Cond.code x code maxLocals ret).before args0 about1 = true := code_word (m := ⟨1, 1⟩) (meth := k1m1) (c := k1c1) (by decide +kernel) rfl rfl rfl (by decide +kernel)
set_option maxRecDepth 65536 in
theorem w_c1 : (Jvm.Cond.code ({ cls := "com/example/feedback/feedback/index/Postings", name := "<init>", desc := "([I[I[I)V" } : Jvm.MethodName) prog_32_method_1_code (5 : Nat) (Option.none : Option Jvm.ClassFile.FieldType)).before args0 about1 = true := code_word (m := ⟨2, 0⟩) (meth := k2m0) (c := k2c0) (by decide +kernel) rfl rfl rfl (by decide +kernel)
set_option maxRecDepth 65536 in
theorem w_c2 : (Jvm.Cond.code ({ cls := "java/lang/Object", name := "<init>", desc := "()V" } : Jvm.MethodName) object_method_1_code (1 : Nat) (Option.none : Option Jvm.ClassFile.FieldType)).before args0 about1 = true := code_word (m := ⟨0, 0⟩) (meth := k0m0) (c := k0c0) (by decide +kernel) rfl rfl rfl (by decide +kernel)
set_option maxRecDepth 65536 in
theorem w_c3 : (Jvm.Cond.code ({ cls := "com/example/feedback/feedback/index/Postings", name := "size", desc := "()I" } : Jvm.MethodName) prog_32_method_2_code (1 : Nat) (Option.some Jvm.ClassFile.FieldType.int)).before args0 about1 = true := code_word (m := ⟨2, 1⟩) (meth := k2m1) (c := k2c1) (by decide +kernel) rfl rfl rfl (by decide +kernel)
set_option maxRecDepth 65536 in
theorem w_c4 : (Jvm.Cond.code ({ cls := "com/example/feedback/feedback/index/Postings", name := "frequency", desc := "(I)I" } : Jvm.MethodName) prog_32_method_4_code (2 : Nat) (Option.some Jvm.ClassFile.FieldType.int)).before args0 about1 = true := code_word (m := ⟨2, 2⟩) (meth := k2m2) (c := k2c2) (by decide +kernel) rfl rfl rfl (by decide +kernel)
def codes1 : List Jvm.Cond := [Jvm.Cond.code x code maxLocals ret, Jvm.Cond.code ({ cls := "com/example/feedback/feedback/index/Postings", name := "<init>", desc := "([I[I[I)V" } : Jvm.MethodName) prog_32_method_1_code (5 : Nat) (Option.none : Option Jvm.ClassFile.FieldType), Jvm.Cond.code ({ cls := "java/lang/Object", name := "<init>", desc := "()V" } : Jvm.MethodName) object_method_1_code (1 : Nat) (Option.none : Option Jvm.ClassFile.FieldType), Jvm.Cond.code ({ cls := "com/example/feedback/feedback/index/Postings", name := "size", desc := "()I" } : Jvm.MethodName) prog_32_method_2_code (1 : Nat) (Option.some Jvm.ClassFile.FieldType.int), Jvm.Cond.code ({ cls := "com/example/feedback/feedback/index/Postings", name := "frequency", desc := "(I)I" } : Jvm.MethodName) prog_32_method_4_code (2 : Nat) (Option.some Jvm.ClassFile.FieldType.int)]
set_option maxRecDepth 65536 in
theorem codes_eq : words1.filter isCode = codes1 := rfl
theorem w_codes : ∀ c ∈ words1.filter isCode, c.before args0 about1 = true := by
  rw [codes_eq]
  intro c hc
  simp only [codes1, List.mem_cons, List.not_mem_nil, or_false] at hc
  rcases hc with rfl | rfl | rfl | rfl | rfl
  · exact w_c0
  · exact w_c1
  · exact w_c2
  · exact w_c3
  · exact w_c4
set_option maxRecDepth 65536 in
theorem w_t1 : (words1.take 24).all (fun c => isCode c || c.before args0 about1) = true := by decide +kernel
set_option maxRecDepth 65536 in
theorem w_t2 : (words1.drop 24).all (fun c => isCode c || c.before args0 about1) = true := by decide +kernel
theorem w_tables : (allAtoms (Jvm.Cond.code x code maxLocals ret :: tables_1)).before args0 about1 = true := by
  rw [allAtoms_all]
  show words1.all (fun c => c.before args0 about1) = true
  refine all_split ?_ w_codes
  rw [← List.take_append_drop 24 words1, List.all_append, w_t1, w_t2]
  rfl
set_option maxRecDepth 65536 in
theorem w_case : (Jvm.Cond.and given_1 narrow_1).before args0 about1 = true := by decide +kernel
theorem w_applies : (headSpec (Jvm.Cond.code x code maxLocals ret :: tables_1) room_1).applies x e0.platform about1 = true :=
  (Spec.applies_iff w_frames).mpr ⟨w_running, w_runnable, w_alone, w_named, w_hears, w_ripe, w_room, w_tables⟩
theorem atStart : AtStart classFile x code maxLocals ret World_1 tables_1 room_1 Calls_1 rest_1 Pre_1 launch0 p0 e0 about1 theMethod args0 below0 :=
  ⟨lists_1, trivial, launch0.admits_env _ _ _, launch0.least_env, fairChoices_fair.cas, fairChoices_fair.clock, w_frames, w_args, w_heap, w_applies, trivial, trivial, w_case⟩
end start1
theorem witness_1 : WitnessClaimed_1 := ⟨start1.p0, start1.e0, start1.about1, start1.theMethod, start1.args0, start1.below0, start1.atStart⟩
end Jvm.Pilot.@@N@@
