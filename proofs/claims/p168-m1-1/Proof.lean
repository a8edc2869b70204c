import JvmDerived
import JvmDerived.Pilot.@@N@@Statement
import JvmDerived.Pilot.@@N@@Code
set_option linter.unusedVariables false
set_option linter.unusedSimpArgs false
namespace Jvm.RoadKit
open Sem ClassFile Op Lib Jvm.Stand Jvm.Free Jvm.LawKit
section New
variable {p : Program} {l : Launch} {e : Env} {R : Room} {s : State} {m : MethodId} {args : Array Value} {below : List Frame} {meth : Method} {c : Code} {T : State} {locs : List Loc} {cells slots : Nat}
theorem retI (X : Stand p l e R s m args below meth c T locs cells slots) (hx : p.tables.exec = Jvm.exec) {pc : Nat} {Ls : Array Slot} {z : Int32} {rest : List Value} (hret : meth.sig.returnType = some .int) (hd : decode c.code pc = .ok (.ireturn, 1)) {fs : List Frame}
    (hl : ∀ (f : JFrame) (acts : List Action), f.method = m → f.locked = none → f.entered = [] → (doReturn e (T.setTop f) acts (some (.int z))).1 = T.setFrames fs) : Steps p.tables e below (T.setTop (mkF m pc Ls (.int z :: rest))) (T.setFrames fs) := by
  have hm' : T.vm.method? m = some meth := X.method'
  have hn : narrow .int (.int z) = .int z := rfl
  show Steps p.tables e below (T.setTop { method := m, pc := pc, locals := Ls, stack := _ :: rest, locked := none }) _
  jvm_step X.here [X.here.top, hx, hd, hm', hret, hn]
  first | (intro acts; rw [hl _ acts rfl rfl rfl]) | rw [hl _ _ rfl rfl rfl]
  exact Steps.refl _
end New
end Jvm.RoadKit
namespace Jvm.Pilot.@@N@@
open Jvm Jvm.ClassFile Sem Op Lib Jvm.Free Jvm.Stand Jvm.LawKit Jvm.RoadKit Bundle Jvm.Pilot.@@N@@.Jvm.D
section Own
variable {p : Program} {l : Launch} {e : Env} {R : Room} {s : State} {m : MethodId} {args : Array Value} {below : List Frame} {meth : Method} {c : Code} {T T' : State} {locs : List Loc} {cells slots cc nn : Nat} {f f' : JFrame} {Q : Option Value → Heap → List Loc → Prop} {Z : State} {h h' : Heap} {ws : List Addr}
/-- from this state the body comes to its end, and what it leaves is as Q says -/
def own_Ends (p : Program) (e : Env) (below : List Frame) (s : State) (Q : Option Value → Heap → List Loc → Prop) (cc nn : Nat) (T : State) (f : JFrame) : Prop :=
  ∃ s₂ o, Steps p.tables e below (T.setTop f) s₂ ∧ s₂.status = .running ∧ Ended s₂ below o ∧ ∃ v L, o = .returned v ∧ Q v s₂.heap L ∧ FrameEnd s o s₂ L cc nn
theorem own_go (k : ∀ t, Steps p.tables e below (T'.setTop f') t → Steps p.tables e below (T.setTop f) t) (h : own_Ends p e below s Q cc nn T' f') : own_Ends p e below s Q cc nn T f := by
  obtain ⟨s₂, o, h1, h2⟩ := h
  exact ⟨s₂, o, k _ h1, h2⟩
theorem own_ret (X : Stand p l e R s m args below meth c T locs cells slots) {v : Option Value} (hv : meth.sig.returnType = none → v = none) (hlk : meth.locks = false)
    (st : ∀ fs, (∀ (f : JFrame) (acts : List Action), f.method = m → f.locked = none → f.entered = [] → (doReturn e (T.setTop f) acts v).1 = T.setFrames fs) → Steps p.tables e below (T.setTop f) (T.setFrames fs)) (hQ : Q v T.heap locs) (h1 : cells ≤ cc) (h2 : slots ≤ nn) :
    own_Ends p e below s Q cc nn T f := by
  obtain ⟨fs, hr, hrun, hended, hW, hsame⟩ := X.leave (v := v) hv hlk
  exact ⟨_, _, st fs hr, hrun, hended, _, _, rfl, hQ, ⟨_, rfl⟩, hW, hsame.mono h1 h2⟩
theorem own_retL (X : Stand p l e R s m args below meth c T locs cells slots) (hx : p.tables.exec = Jvm.exec) {pc : Nat} {Ls : Array Slot} {z : Int64} {rest : List Value} (hret : meth.sig.returnType = some .long) (hd : decode c.code pc = .ok (.lreturn, 1)) {fs : List Frame}
    (hl : ∀ (f : JFrame) (acts : List Action), f.method = m → f.locked = none → f.entered = [] → (doReturn e (T.setTop f) acts (some (.long z))).1 = T.setFrames fs) : Steps p.tables e below (T.setTop (mkF m pc Ls (.long z :: rest))) (T.setFrames fs) :=
  retOut X hx hret rfl (Or.inr (Or.inl ⟨rfl, rfl, _, rfl⟩)) hd hl
theorem own_retD (X : Stand p l e R s m args below meth c T locs cells slots) (hx : p.tables.exec = Jvm.exec) {pc : Nat} {Ls : Array Slot} {z : UInt64} {rest : List Value} (hret : meth.sig.returnType = some .double) (hd : decode c.code pc = .ok (.dreturn, 1)) {fs : List Frame}
    (hl : ∀ (f : JFrame) (acts : List Action), f.method = m → f.locked = none → f.entered = [] → (doReturn e (T.setTop f) acts (some (.double z))).1 = T.setFrames fs) : Steps p.tables e below (T.setTop (mkF m pc Ls (.double z :: rest))) (T.setFrames fs) :=
  retOut X hx hret rfl (Or.inr (Or.inr (Or.inl ⟨rfl, rfl, _, rfl⟩))) hd hl
theorem own_retA (X : Stand p l e R s m args below meth c T locs cells slots) (hx : p.tables.exec = Jvm.exec) {pc : Nat} {Ls : Array Slot} {w : Value} {t : FieldType} {rest : List Value} (hret : meth.sig.returnType = some t) (ht : t.isReference = true) (hw : w.isRef = true) (hd : decode c.code pc = .ok (.areturn, 1)) {fs : List Frame}
    (hl : ∀ (f : JFrame) (acts : List Action), f.method = m → f.locked = none → f.entered = [] → (doReturn e (T.setTop f) acts (some w)).1 = T.setFrames fs) : Steps p.tables e below (T.setTop (mkF m pc Ls (w :: rest))) (T.setFrames fs) :=
  retOut X hx hret (by cases t <;> first | rfl | (cases ht; done)) (Or.inr (Or.inr (Or.inr (Or.inr ⟨rfl, ht, hw⟩)))) hd hl
theorem own_lc_lt {a b : Int64} : lcmpW a b < 0 ↔ a < b := by
  simp only [lcmpW, gt_iff_lt]
  by_cases h1 : b < a
  · rw [if_pos h1]; exact ⟨fun q => absurd q (by decide), fun q => absurd q (by rw [Int64.lt_iff_toInt_lt] at *; omega)⟩
  · rw [if_neg h1]
    by_cases h2 : a = b
    · rw [if_pos h2]; exact ⟨fun q => absurd q (by decide), fun q => absurd q (by rw [h2, Int64.lt_iff_toInt_lt]; omega)⟩
    · rw [if_neg h2]; exact ⟨fun _ => by rw [Int64.lt_iff_toInt_lt] at *; rw [← Int64.toInt_inj] at h2; omega, fun _ => by decide⟩
theorem own_lc_eq {a b : Int64} : lcmpW a b = 0 ↔ a = b := by
  simp only [lcmpW, gt_iff_lt]
  by_cases h1 : b < a
  · rw [if_pos h1]; exact ⟨fun q => absurd q (by decide), fun q => absurd h1 (by rw [q, Int64.lt_iff_toInt_lt]; omega)⟩
  · rw [if_neg h1]
    by_cases h2 : a = b
    · rw [if_pos h2]; exact ⟨fun _ => h2, fun _ => rfl⟩
    · rw [if_neg h2]; exact ⟨fun q => absurd q (by decide), fun q => absurd q h2⟩
theorem own_lc_gt {a b : Int64} : 0 < lcmpW a b ↔ b < a := by
  simp only [lcmpW, gt_iff_lt]
  by_cases h1 : b < a
  · rw [if_pos h1]; exact ⟨fun _ => h1, fun _ => by decide⟩
  · rw [if_neg h1]
    by_cases h2 : a = b
    · rw [if_pos h2]; exact ⟨fun q => absurd q (by decide), fun q => absurd q h1⟩
    · rw [if_neg h2]; exact ⟨fun q => absurd q (by decide), fun q => absurd q h1⟩
section Arr
variable {target : State} {g : JFrame} {a : Addr} {kc : ClassId} {ty : FieldType} {z : Int32} {vs : List Value} {dv : Value}
theorem own_alen (X : Stand p l e R s m args below meth c T locs cells slots) (hx : p.tables.exec = Jvm.exec) (hZ : Z.Warmed39 s.vm) (eT : T.heap = h) (V : Arv Z h a kc ty z vs dv) (hg : g.method = m) {rest : List Value} (hs : g.stack = .ref a :: rest) (hd : decode c.code g.pc = .ok (.arraylength, 1))
    (hr : Steps p.tables e below (T.setTop { g with pc := g.pc + 1, stack := .int z :: rest }) target) : Steps p.tables e below (T.setTop g) target := by
  obtain ⟨cl, Ar, -, Sz, Ng, -, -⟩ := V
  exact X.arraylength hx (by rw [eT]; exact Ar.1) (State.isArrayOf_alike hZ.alike Ar.2.1) hg hs hd _ (by rw [len_of Sz Ng]; exact hr)
theorem own_ldI (X : Stand p l e R s m args below meth c T locs cells slots) (hx : p.tables.exec = Jvm.exec) (hZ : Z.Warmed39 s.vm) (eT : T.heap = h) (V : Arv Z h a kc .int z vs dv) {j : Int32} {x : Int32} (hin : ¬ j < 0 ∧ j < z) (hv : vs.getD j.toNatClampNeg dv = .int x) (hg : g.method = m) {rest : List Value} (hs : g.stack = .int j :: .ref a :: rest) (hd : decode c.code g.pc = .ok (.iaload, 1))
    (hr : Steps p.tables e below (T.setTop { g with pc := g.pc + 1, stack := .int x :: rest }) target) : Steps p.tables e below (T.setTop g) target := by
  obtain ⟨cl, Ar, -, Sz, Ng, Hs, Ft⟩ := V
  have hq := inb_of (j := j) Sz hin
  exact X.iaload hx (j := j) (v := .int x) (by rw [eT]; exact Ar.1) (State.isArrayOf_alike hZ.alike Ar.2.1) Ar.2.2 hq (Hs.at hq hv) hg hs hd _ hr
theorem own_ldB (X : Stand p l e R s m args below meth c T locs cells slots) (hx : p.tables.exec = Jvm.exec) (hZ : Z.Warmed39 s.vm) (eT : T.heap = h) (V : Arv Z h a kc .byte z vs dv) {j : Int32} {x : Int32} (hin : ¬ j < 0 ∧ j < z) (hv : vs.getD j.toNatClampNeg dv = .int x) (hg : g.method = m) {rest : List Value} (hs : g.stack = .int j :: .ref a :: rest) (hd : decode c.code g.pc = .ok (.baload, 1))
    (hr : Steps p.tables e below (T.setTop { g with pc := g.pc + 1, stack := .int x :: rest }) target) : Steps p.tables e below (T.setTop g) target := by
  obtain ⟨cl, Ar, -, Sz, Ng, Hs, Ft⟩ := V
  have hq := inb_of (j := j) Sz hin
  exact X.baloadBytes hx (j := j) (v := .int x) (by rw [eT]; exact Ar.1) (State.isArrayOf_alike hZ.alike Ar.2.1) Ar.2.2 hq (Hs.at hq hv) hg hs hd _ hr
theorem own_ldC (X : Stand p l e R s m args below meth c T locs cells slots) (hx : p.tables.exec = Jvm.exec) (hZ : Z.Warmed39 s.vm) (eT : T.heap = h) (V : Arv Z h a kc .char z vs dv) {j : Int32} {x : Int32} (hin : ¬ j < 0 ∧ j < z) (hv : vs.getD j.toNatClampNeg dv = .int x) (hg : g.method = m) {rest : List Value} (hs : g.stack = .int j :: .ref a :: rest) (hd : decode c.code g.pc = .ok (.caload, 1))
    (hr : Steps p.tables e below (T.setTop { g with pc := g.pc + 1, stack := .int x :: rest }) target) : Steps p.tables e below (T.setTop g) target := by
  obtain ⟨cl, Ar, -, Sz, Ng, Hs, Ft⟩ := V
  have hq := inb_of (j := j) Sz hin
  exact X.caload hx (j := j) (v := .int x) (by rw [eT]; exact Ar.1) (State.isArrayOf_alike hZ.alike Ar.2.1) Ar.2.2 hq (Hs.at hq hv) hg hs hd _ hr
theorem own_ldJ (X : Stand p l e R s m args below meth c T locs cells slots) (hx : p.tables.exec = Jvm.exec) (hZ : Z.Warmed39 s.vm) (eT : T.heap = h) (V : Arv Z h a kc .long z vs dv) {j : Int32} {x : Int64} (hin : ¬ j < 0 ∧ j < z) (hv : vs.getD j.toNatClampNeg dv = .long x) (hg : g.method = m) {rest : List Value} (hs : g.stack = .int j :: .ref a :: rest) (hd : decode c.code g.pc = .ok (.laload, 1))
    (hr : Steps p.tables e below (T.setTop { g with pc := g.pc + 1, stack := .long x :: rest }) target) : Steps p.tables e below (T.setTop g) target := by
  obtain ⟨cl, Ar, -, Sz, Ng, Hs, Ft⟩ := V
  have hq := inb_of (j := j) Sz hin
  exact X.laload hx (j := j) (v := .long x) (by rw [eT]; exact Ar.1) (State.isArrayOf_alike hZ.alike Ar.2.1) Ar.2.2 hq (Hs.at hq hv) hg hs hd _ hr
theorem own_ldR (X : Stand p l e R s m args below meth c T locs cells slots) (hx : p.tables.exec = Jvm.exec) (hZ : Z.Warmed39 s.vm) (eT : T.heap = h) (V : Arv Z h a kc ty z vs dv) {j : Int32} {x : Value} (hin : ¬ j < 0 ∧ j < z) (hv : vs.getD j.toNatClampNeg dv = x) (hty : ty.isReference = true) (hg : g.method = m) {rest : List Value} (hs : g.stack = .int j :: .ref a :: rest) (hd : decode c.code g.pc = .ok (.aaload, 1))
    (hr : Steps p.tables e below (T.setTop { g with pc := g.pc + 1, stack := x :: rest }) target) : Steps p.tables e below (T.setTop g) target := by
  obtain ⟨cl, Ar, -, Sz, Ng, Hs, Ft⟩ := V
  have hq := inb_of (j := j) Sz hin
  exact X.aaload hx (j := j) (v := x) (by rw [eT]; exact Ar.1) (State.isArrayOf_alike hZ.alike Ar.2.1) hty Ar.2.2 hq (Hs.at hq hv) hg hs hd _ hr
theorem own_stI (X : Stand p l e R s m args below meth c T locs cells slots) (hx : p.tables.exec = Jvm.exec) (hZ : Z.Warmed39 s.vm) (eT : T.heap = h) (V : Arv Z h a kc .int z vs dv) {j : Int32} {x : Int32} (hin : ¬ j < 0 ∧ j < z) (i : Nat) (hj : j.toNatClampNeg = i) (hi : i < vs.length) (hg : g.method = m) {rest : List Value} (hs : g.stack = .int x :: .int j :: .ref a :: rest) (hd : decode c.code g.pc = .ok (.iastore, 1)) :
    ∃ T' h', Stand p l e R s m args below meth c T' (locs ++ [⟨a, j.toNatClampNeg⟩]) cells slots ∧ T'.heap = h' ∧ Wr h h' a j.toNatClampNeg (.int x) ∧ Arv Z h' a kc .int z (vs.set i (.int x)) dv ∧ ∀ target, Steps p.tables e below (T'.setTop { g with pc := g.pc + 1, stack := rest }) target → Steps p.tables e below (T.setTop g) target := by
  obtain ⟨cl, Ar, q, Sz, Ng, Hs, Ft⟩ := V
  obtain ⟨T', h', X', e', W', st⟩ := stI X hx hZ eT Ar (j := j) (inb_of Sz hin) hg hs hd
  exact ⟨T', h', X', e', W', Arv.set Ar q Sz Ng Hs Ft rfl W' i hj hi, st⟩
theorem own_stB (X : Stand p l e R s m args below meth c T locs cells slots) (hx : p.tables.exec = Jvm.exec) (hZ : Z.Warmed39 s.vm) (eT : T.heap = h) (V : Arv Z h a kc .byte z vs dv) {j : Int32} {x : Int32} (hin : ¬ j < 0 ∧ j < z) (i : Nat) (hj : j.toNatClampNeg = i) (hi : i < vs.length) (hg : g.method = m) {rest : List Value} (hs : g.stack = .int x :: .int j :: .ref a :: rest) (hd : decode c.code g.pc = .ok (.bastore, 1)) :
    ∃ T' h', Stand p l e R s m args below meth c T' (locs ++ [⟨a, j.toNatClampNeg⟩]) cells slots ∧ T'.heap = h' ∧ Wr h h' a j.toNatClampNeg (.int (nar .byte x)) ∧ Arv Z h' a kc .byte z (vs.set i (.int (nar .byte x))) dv ∧ ∀ target, Steps p.tables e below (T'.setTop { g with pc := g.pc + 1, stack := rest }) target → Steps p.tables e below (T.setTop g) target := by
  obtain ⟨cl, Ar, q, Sz, Ng, Hs, Ft⟩ := V
  obtain ⟨T', h', X', e', W', st⟩ := stB X hx hZ eT Ar (j := j) (inb_of Sz hin) hg hs hd
  exact ⟨T', h', X', e', W', Arv.set Ar q Sz Ng Hs Ft (fits_nar_byte _) W' i hj hi, st⟩
theorem own_stC (X : Stand p l e R s m args below meth c T locs cells slots) (hx : p.tables.exec = Jvm.exec) (hZ : Z.Warmed39 s.vm) (eT : T.heap = h) (V : Arv Z h a kc .char z vs dv) {j : Int32} {x : Int32} (hin : ¬ j < 0 ∧ j < z) (i : Nat) (hj : j.toNatClampNeg = i) (hi : i < vs.length) (hg : g.method = m) {rest : List Value} (hs : g.stack = .int x :: .int j :: .ref a :: rest) (hd : decode c.code g.pc = .ok (.castore, 1)) :
    ∃ T' h', Stand p l e R s m args below meth c T' (locs ++ [⟨a, j.toNatClampNeg⟩]) cells slots ∧ T'.heap = h' ∧ Wr h h' a j.toNatClampNeg (.int (nar .char x)) ∧ Arv Z h' a kc .char z (vs.set i (.int (nar .char x))) dv ∧ ∀ target, Steps p.tables e below (T'.setTop { g with pc := g.pc + 1, stack := rest }) target → Steps p.tables e below (T.setTop g) target := by
  obtain ⟨cl, Ar, q, Sz, Ng, Hs, Ft⟩ := V
  obtain ⟨T', h', X', e', W', st⟩ := stC X hx hZ eT Ar (j := j) (inb_of Sz hin) hg hs hd
  exact ⟨T', h', X', e', W', Arv.set Ar q Sz Ng Hs Ft (fits_nar_char _) W' i hj hi, st⟩
theorem own_stJ (X : Stand p l e R s m args below meth c T locs cells slots) (hx : p.tables.exec = Jvm.exec) (hZ : Z.Warmed39 s.vm) (eT : T.heap = h) (V : Arv Z h a kc .long z vs dv) {j : Int32} {x : Int64} (hin : ¬ j < 0 ∧ j < z) (i : Nat) (hj : j.toNatClampNeg = i) (hi : i < vs.length) (hg : g.method = m) {rest : List Value} (hs : g.stack = .long x :: .int j :: .ref a :: rest) (hd : decode c.code g.pc = .ok (.lastore, 1)) :
    ∃ T' h', Stand p l e R s m args below meth c T' (locs ++ [⟨a, j.toNatClampNeg⟩]) cells slots ∧ T'.heap = h' ∧ Wr h h' a j.toNatClampNeg (.long x) ∧ Arv Z h' a kc .long z (vs.set i (.long x)) dv ∧ ∀ target, Steps p.tables e below (T'.setTop { g with pc := g.pc + 1, stack := rest }) target → Steps p.tables e below (T.setTop g) target := by
  obtain ⟨cl, Ar, q, Sz, Ng, Hs, Ft⟩ := V
  obtain ⟨T', h', X', e', W', st⟩ := stJ X hx hZ eT Ar (j := j) (inb_of Sz hin) hg hs hd
  exact ⟨T', h', X', e', W', Arv.set Ar q Sz Ng Hs Ft rfl W' i hj hi, st⟩
theorem own_stZ (X : Stand p l e R s m args below meth c T locs cells slots) (hx : p.tables.exec = Jvm.exec) (hZ : Z.Warmed39 s.vm) (eT : T.heap = h) (V : Arv Z h a kc .boolean z vs dv) {j : Int32} {x : Int32} (hin : ¬ j < 0 ∧ j < z) (i : Nat) (hj : j.toNatClampNeg = i) (hi : i < vs.length) (hg : g.method = m) {rest : List Value} (hs : g.stack = .int x :: .int j :: .ref a :: rest) (hd : decode c.code g.pc = .ok (.bastore, 1)) :
    ∃ T' h', Stand p l e R s m args below meth c T' (locs ++ [⟨a, j.toNatClampNeg⟩]) cells slots ∧ T'.heap = h' ∧ Wr h h' a j.toNatClampNeg (.int (nar .boolean x)) ∧ Arv Z h' a kc .boolean z (vs.set i (.int (nar .boolean x))) dv ∧ ∀ target, Steps p.tables e below (T'.setTop { g with pc := g.pc + 1, stack := rest }) target → Steps p.tables e below (T.setTop g) target := by
  obtain ⟨cl, Ar, q, Sz, Ng, Hs, Ft⟩ := V
  obtain ⟨T', h', X', e', W', st⟩ := stZ X hx hZ eT Ar (j := j) (inb_of Sz hin) hg hs hd
  exact ⟨T', h', X', e', W', Arv.set Ar q Sz Ng Hs Ft (fits_nar_bool _) W' i hj hi, st⟩
theorem own_stR (X : Stand p l e R s m args below meth c T locs cells slots) (hx : p.tables.exec = Jvm.exec) (hZ : Z.Warmed39 s.vm) (eT : T.heap = h) (V : Arv Z h a kc ty z vs dv) {j : Int32} {x : Value} (hin : ¬ j < 0 ∧ j < z) (hty : ty.isReference = true) (hf : fits ty x = true) (F : ∀ cl, Arr Z h a cl ty → cl.cls = kc → Sto Z h a x) (i : Nat) (hj : j.toNatClampNeg = i) (hi : i < vs.length) (hg : g.method = m) {rest : List Value} (hs : g.stack = x :: .int j :: .ref a :: rest) (hd : decode c.code g.pc = .ok (.aastore, 1)) :
    ∃ T' h', Stand p l e R s m args below meth c T' (locs ++ [⟨a, j.toNatClampNeg⟩]) cells slots ∧ T'.heap = h' ∧ Wr h h' a j.toNatClampNeg x ∧ Arv Z h' a kc ty z (vs.set i x) dv ∧ ∀ target, Steps p.tables e below (T'.setTop { g with pc := g.pc + 1, stack := rest }) target → Steps p.tables e below (T.setTop g) target := by
  obtain ⟨cl, Ar, q, Sz, Ng, Hs, Ft⟩ := V
  obtain ⟨T', h', X', e', W', st⟩ := stR X hx hZ eT Ar (j := j) (inb_of Sz hin) hty (F cl Ar q) hg hs hd
  exact ⟨T', h', X', e', W', Arv.set Ar q Sz Ng Hs Ft hf W' i hj hi, st⟩
end Arr
section Dbl
open Jvm.Free.XS
variable {tb : Tables} [Ours tb] {target : State} {g : JFrame}
theorem own_dloadN (h : At T m c below) (hx : tb.exec = Jvm.exec) (hg : g.method = m) {k : Fin 4} {v : UInt64} (hd : decode c.code g.pc = .ok (.dload_n k, 1)) (hl : g.locals[k.val]? = some (.val (.double v))) (hr : Steps tb e below (T.setTop { g with pc := g.pc + 1, stack := .double v :: g.stack }) target) : Steps tb e below (T.setTop g) target := by
  subst hg
  jvm_step h [h.top, hx, hd, hl]
  exact hr
theorem own_dload (h : At T m c below) (hx : tb.exec = Jvm.exec) (hg : g.method = m) {k : Nat} {v : UInt64} (hd : decode c.code g.pc = .ok (.dload k, 2)) (hl : g.locals[k]? = some (.val (.double v))) (hr : Steps tb e below (T.setTop { g with pc := g.pc + 2, stack := .double v :: g.stack }) target) : Steps tb e below (T.setTop g) target := by
  subst hg
  jvm_step h [h.top, hx, hd, hl]
  exact hr
theorem own_i2d (h : At T m c below) (hx : tb.exec = Jvm.exec) (hg : g.method = m) {x : Int32} {rest : List Value} (hd : decode c.code g.pc = .ok (.i2d, 1)) (hs : g.stack = .int x :: rest) (hr : Steps tb e below (T.setTop { g with pc := g.pc + 1, stack := .double (FP.i2d x) :: rest }) target) : Steps tb e below (T.setTop g) target := by
  subst hg
  jvm_step h [h.top, hx, hd, hs]
  exact hr
theorem own_dconst0 (h : At T m c below) (hx : tb.exec = Jvm.exec) (hg : g.method = m) (hd : decode c.code g.pc = .ok (.dconst 0, 1)) (hr : Steps tb e below (T.setTop { g with pc := g.pc + 1, stack := .double FP.dconst0 :: g.stack }) target) : Steps tb e below (T.setTop g) target := by
  subst hg
  jvm_step h [h.top, hx, hd]
  exact hr
theorem own_dconst1 (h : At T m c below) (hx : tb.exec = Jvm.exec) (hg : g.method = m) (hd : decode c.code g.pc = .ok (.dconst 1, 1)) (hr : Steps tb e below (T.setTop { g with pc := g.pc + 1, stack := .double FP.dconst1 :: g.stack }) target) : Steps tb e below (T.setTop g) target := by
  subst hg
  jvm_step h [h.top, hx, hd]
  exact hr
theorem own_pop2D (h : At T m c below) (hx : tb.exec = Jvm.exec) (hg : g.method = m) {v : UInt64} {rest : List Value} (hd : decode c.code g.pc = .ok (.pop2, 1)) (hs : g.stack = .double v :: rest) (hr : Steps tb e below (T.setTop { g with pc := g.pc + 1, stack := rest }) target) : Steps tb e below (T.setTop g) target := by
  subst hg
  jvm_step h [h.top, hx, hd, hs, Value.category]
  exact hr
theorem own_lsw (h : At T m c below) (hx : tb.exec = Jvm.exec) (hg : g.method = m) {dflt : Int} {prs : Array (Int × Int)} {len : Nat} {o : Int} {pc0 pc' : Nat} (hpc : g.pc = pc0) (hd : decode c.code g.pc = .ok (.lookupswitch dflt prs, len)) {i : Int32} {rest : List Value} (hs : g.stack = .int i :: rest) (ho : lookupswitch.offset prs.toList dflt i.toInt = o) (h0 : 0 ≤ (pc0 : Int) + o) (hp : ((pc0 : Int) + o).toNat = pc') (hk : (prs.toList.zip prs.toList.tail).all (fun q => decide (q.1.1 < q.2.1)) = true)
    (hr : Steps tb e below (T.setTop { g with pc := pc', stack := rest }) target) : Steps tb e below (T.setTop g) target := by
  subst hg hpc hp
  jvm_step h [h.top, hx, hd, hs, ho, h0, lookupswitch.wp_chain]
  exact ⟨fun a b a' b' hm => by simpa using List.all_eq_true.mp hk _ hm, hr⟩
theorem own_dcmp (h : At T m c below) (hx : tb.exec = Jvm.exec) (hg : g.method = m) {x y : UInt64} {rest : List Value} {op : CmpOp} {o : Ordering} (hd : decode c.code g.pc = .ok (.dcmp op, 1)) (hs : g.stack = .double y :: .double x :: rest) (hc : FP.dcmp x y = some o) (hr : Steps tb e below (T.setTop { g with pc := g.pc + 1, stack := .int (FP.cmpInt 0 (some o)) :: rest }) target) : Steps tb e below (T.setTop g) target := by
  subst hg
  cases o <;> (jvm_step h [h.top, hx, hd, hs, hc, cmpValue]; exact hr)
end Dbl
theorem own_ne0 {s : State} {args : Array Value} {t : Term} {x : Int32} (ev : t.eval args s none [] s = some (.int x)) (h : (Cond.not (Cond.eq t (.int (0 : Int32)))).before args s = true) : ¬ (x = (0 : Int32)) := fun q => by
  subst q
  have h' := Cond.before_iff.mp h
  have e2 : (Term.int (0 : Int32)).eval args s none [] s = some (.int (0 : Int32)) := rfl
  simp only [Cond.value, ev, e2] at h'
  simp at h'
def own_sel {α : Type} (P : Prop) [Decidable P] (x y : α) : α := if P then x else y
theorem own_sel_t {α : Type} {P : Prop} [Decidable P] {x y : α} (h : P) : own_sel P x y = x := if_pos h
theorem own_sel_f {α : Type} {P : Prop} [Decidable P] {x y : α} (h : ¬ P) : own_sel P x y = y := if_neg h
def own_b2i (P : Prop) [Decidable P] : Int32 := if P then 1 else 0
theorem own_b2i_1 {P : Prop} [Decidable P] (h : P) : own_b2i P = 1 := by rw [own_b2i, if_pos h]
theorem own_b2i_congr {P R : Prop} [Decidable P] [Decidable R] (h : P ↔ R) : own_b2i P = own_b2i R := by
  by_cases q : P
  · rw [own_b2i_1 q, own_b2i_1 (h.mp q)]
  · rw [own_b2i, own_b2i, if_neg q, if_neg (fun r => q (h.mpr r))]
theorem own_b2i_t {P : Prop} [Decidable P] (h : P) : ¬ own_b2i P = 0 := by rw [own_b2i, if_pos h]; decide
theorem own_b2i_f {P : Prop} [Decidable P] (h : ¬ P) : own_b2i P = 0 := by rw [own_b2i, if_neg h]
theorem own_sta_keep {C n d : String} {v : Value} (F : Sta Z h C n d v) (K : Keep h h' ws) (q : ∀ st ∈ ws, ∀ c, h[st]? = some c → c.vm.isStatics = false) : Sta Z h' C n d v := by
  obtain ⟨cf, i, k, f, st, cell, h1, h2, h3, h4, h5, h6, h7⟩ := F
  exact ⟨cf, i, k, f, st, cell, h1, h2, h3, h4, K.2.1 st cell h5 (fun z => by rw [q st z cell h5] at h6; cases h6), h6, h7⟩
theorem own_ws0 : ∀ st ∈ ([] : List Addr), ∀ c, h[st]? = some c → c.vm.isStatics = false := fun _ q => nomatch q
theorem own_wsE {a : Addr} {C : String} (F : Exa Z h a C) (q : ∀ st ∈ ws, ∀ c, h[st]? = some c → c.vm.isStatics = false) : ∀ st ∈ a :: ws, ∀ c, h[st]? = some c → c.vm.isStatics = false := fun st hs c hc => by
  rcases List.mem_cons.mp hs with rfl | hs
  · obtain ⟨cell, k, h1, -, -, h4, -⟩ := F; cases h1.symm.trans hc; exact h4
  · exact q st hs c hc
theorem own_wsF {a : Addr} {C n d : String} {v : Value} (F : Fld Z h a C n d v) (q : ∀ st ∈ ws, ∀ c, h[st]? = some c → c.vm.isStatics = false) : ∀ st ∈ a :: ws, ∀ c, h[st]? = some c → c.vm.isStatics = false := fun st hs c hc => by
  rcases List.mem_cons.mp hs with rfl | hs
  · exact old_plain F c hc
  · exact q st hs c hc
theorem own_wsV {a : Addr} {k : ClassId} {ty : FieldType} {z : Int32} {vs : List Value} {dv : Value} (F : Arv Z h a k ty z vs dv) (q : ∀ st ∈ ws, ∀ c, h[st]? = some c → c.vm.isStatics = false) : ∀ st ∈ a :: ws, ∀ c, h[st]? = some c → c.vm.isStatics = false := fun st hs c hc => by
  rcases List.mem_cons.mp hs with rfl | hs
  · obtain ⟨cl, A, -⟩ := F; cases A.1.symm.trans hc; exact A.plain
  · exact q st hs c hc
theorem own_kx (K : Keep h h' []) : Ext h h' := ⟨K.1, fun a c q => K.2.1 a c q nin0⟩
theorem own_ins_keep {a : Addr} {C : String} {bo : Bool} (F : Ins Z h a C bo) (K : Keep h h' ws) : Ins Z h' a C bo := by
  obtain ⟨cell, cT, h1, h2, h3⟩ := F
  obtain ⟨c', q, r1, r2, r3⟩ := K.2.2 a cell h1
  exact ⟨c', cT, q, h2, by rw [r1, r2]; exact h3⟩
end Own
def own_lit0 : List Value := [(.int (84 : Int32)), (.int (84 : Int32)), (.int (79 : Int32)), (.int (79 : Int32)), (.int (79 : Int32)), (.int (79 : Int32)), (.int (79 : Int32)), (.int (84 : Int32)), (.int (79 : Int32)), (.int (66 : Int32)), (.int (78 : Int32)), (.int (78 : Int32)), (.int (89 : Int32)), (.int (89 : Int32)), (.int (89 : Int32)), (.int (84 : Int32)), (.int (79 : Int32)), (.int (84 : Int32)), (.int (78 : Int32)), (.int (78 : Int32)), (.int (78 : Int32)), (.int (78 : Int32)), (.int (78 : Int32)), (.int (78 : Int32)), (.int (78 : Int32)), (.int (79 : Int32)), (.int (79 : Int32)), (.int (79 : Int32)), (.int (84 : Int32)), (.int (79 : Int32)), (.int (79 : Int32)), (.int (79 : Int32)), (.int (66 : Int32))]
theorem own_lit0_ok : (∀ c ∈ "TTOOOOOTOBNNYYYTOTNNNNNNNOOOTOOOB".toList, c.toNat < 256) ∧ "TTOOOOOTOBNNYYYTOTNNNNNNNOOOTOOOB".toList.map (fun c => Value.int (Jvm.Lit.byteI c.toNat.toUInt16)) = own_lit0 := ⟨by decide +kernel, by decide +kernel⟩
theorem own_lit0_len : (33 : Int32).toNatClampNeg = own_lit0.length := by decide +kernel
def own_lit1 : List Value := [(.int (89 : Int32)), (.int (84 : Int32)), (.int (79 : Int32)), (.int (79 : Int32)), (.int (79 : Int32)), (.int (79 : Int32)), (.int (79 : Int32)), (.int (84 : Int32)), (.int (79 : Int32)), (.int (77 : Int32)), (.int (77 : Int32))]
theorem own_lit1_ok : (∀ c ∈ "YTOOOOOTOMM".toList, c.toNat < 256) ∧ "YTOOOOOTOMM".toList.map (fun c => Value.int (Jvm.Lit.byteI c.toNat.toUInt16)) = own_lit1 := ⟨by decide +kernel, by decide +kernel⟩
theorem own_lit1_len : (11 : Int32).toNatClampNeg = own_lit1.length := by decide +kernel
abbrev mn0 : MethodName := ⟨"jdk/internal/util/Preconditions", "checkIndex", "(IILjava/util/function/BiFunction;)I"⟩
theorem ow40 {Z : State} {a0 : Array Value} (hw : ∀ d ∈ tables_1, d.before a0 Z = true) : (Jvm.Cond.fieldLink "java/lang/String" (1053 : Nat) "jdk/internal/util/Preconditions" "SIOOBE_FORMATTER" "Ljava/util/function/BiFunction;").before a0 Z = true := hw _ (List.mem_of_getElem? (i := 40) rfl)
theorem ow42 {Z : State} {a0 : Array Value} (hw : ∀ d ∈ tables_1, d.before a0 Z = true) : (Jvm.Cond.methodLink "java/lang/String" (1059 : Nat) ({ cls := "jdk/internal/util/Preconditions", name := "checkIndex", desc := "(IILjava/util/function/BiFunction;)I" } : Jvm.MethodName)).before a0 Z = true := hw _ (List.mem_of_getElem? (i := 42) rfl)
theorem ow44 {Z : State} {a0 : Array Value} (hw : ∀ d ∈ tables_1, d.before a0 Z = true) : (Jvm.Cond.code ({ cls := "jdk/internal/util/Preconditions", name := "checkIndex", desc := "(IILjava/util/function/BiFunction;)I" } : Jvm.MethodName) jdk_41_method_11_code (3 : Nat) (Option.some Jvm.ClassFile.FieldType.int)).before a0 Z = true := hw _ (List.mem_of_getElem? (i := 44) rfl)
theorem ow41 {Z : State} {a0 : Array Value} (hw : ∀ d ∈ tables_1, d.before a0 Z = true) : (Jvm.Cond.initialized "jdk/internal/util/Preconditions").before a0 Z = true := hw _ (List.mem_of_getElem? (i := 41) rfl)
theorem ow43 {Z : State} {a0 : Array Value} (hw : ∀ d ∈ tables_1, d.before a0 Z = true) : (Jvm.Cond.static ({ cls := "jdk/internal/util/Preconditions", name := "checkIndex", desc := "(IILjava/util/function/BiFunction;)I" } : Jvm.MethodName)).before a0 Z = true := hw _ (List.mem_of_getElem? (i := 43) rfl)
abbrev mn1 : MethodName := ⟨"java/lang/String", "checkIndex", "(II)V"⟩
theorem ow37 {Z : State} {a0 : Array Value} (hw : ∀ d ∈ tables_1, d.before a0 Z = true) : (Jvm.Cond.methodLink "java/lang/StringLatin1" (9 : Nat) ({ cls := "java/lang/String", name := "checkIndex", desc := "(II)V" } : Jvm.MethodName)).before a0 Z = true := hw _ (List.mem_of_getElem? (i := 37) rfl)
theorem ow39 {Z : State} {a0 : Array Value} (hw : ∀ d ∈ tables_1, d.before a0 Z = true) : (Jvm.Cond.code ({ cls := "java/lang/String", name := "checkIndex", desc := "(II)V" } : Jvm.MethodName) jdk_42_method_155_code (2 : Nat) (Option.none : Option Jvm.ClassFile.FieldType)).before a0 Z = true := hw _ (List.mem_of_getElem? (i := 39) rfl)
theorem ow13 {Z : State} {a0 : Array Value} (hw : ∀ d ∈ tables_1, d.before a0 Z = true) : (Jvm.Cond.initialized "java/lang/String").before a0 Z = true := hw _ (List.mem_of_getElem? (i := 13) rfl)
theorem ow38 {Z : State} {a0 : Array Value} (hw : ∀ d ∈ tables_1, d.before a0 Z = true) : (Jvm.Cond.static ({ cls := "java/lang/String", name := "checkIndex", desc := "(II)V" } : Jvm.MethodName)).before a0 Z = true := hw _ (List.mem_of_getElem? (i := 38) rfl)
abbrev mn2 : MethodName := ⟨"java/lang/StringLatin1", "charAt", "([BI)C"⟩
theorem ow30 {Z : State} {a0 : Array Value} (hw : ∀ d ∈ tables_1, d.before a0 Z = true) : (Jvm.Cond.fieldLink "java/lang/String" (38 : Nat) "java/lang/String" "COMPACT_STRINGS" "Z").before a0 Z = true := hw _ (List.mem_of_getElem? (i := 30) rfl)
theorem ow31 {Z : State} {a0 : Array Value} (hw : ∀ d ∈ tables_1, d.before a0 Z = true) : (Jvm.Cond.fieldLink "java/lang/String" (15 : Nat) "java/lang/String" "coder" "B").before a0 Z = true := hw _ (List.mem_of_getElem? (i := 31) rfl)
abbrev mn3 : MethodName := ⟨"java/lang/String", "isLatin1", "()Z"⟩
theorem ow25 {Z : State} {a0 : Array Value} (hw : ∀ d ∈ tables_1, d.before a0 Z = true) : (Jvm.Cond.methodLink "java/lang/String" (492 : Nat) ({ cls := "java/lang/String", name := "isLatin1", desc := "()Z" } : Jvm.MethodName)).before a0 Z = true := hw _ (List.mem_of_getElem? (i := 25) rfl)
theorem ow29 {Z : State} {a0 : Array Value} (hw : ∀ d ∈ tables_1, d.before a0 Z = true) : (Jvm.Cond.code ({ cls := "java/lang/String", name := "isLatin1", desc := "()Z" } : Jvm.MethodName) jdk_42_method_154_code (1 : Nat) (Option.some Jvm.ClassFile.FieldType.boolean)).before a0 Z = true := hw _ (List.mem_of_getElem? (i := 29) rfl)
theorem ow28 {Z : State} {a0 : Array Value} (hw : ∀ d ∈ tables_1, d.before a0 Z = true) : (Jvm.Cond.selects "java/lang/String" ({ cls := "java/lang/String", name := "isLatin1", desc := "()Z" } : Jvm.MethodName) ({ cls := "java/lang/String", name := "isLatin1", desc := "()Z" } : Jvm.MethodName)).before a0 Z = true := hw _ (List.mem_of_getElem? (i := 28) rfl)
theorem ow26 {Z : State} {a0 : Array Value} (hw : ∀ d ∈ tables_1, d.before a0 Z = true) : (Jvm.Cond.declares ({ cls := "java/lang/String", name := "isLatin1", desc := "()Z" } : Jvm.MethodName)).before a0 Z = true := hw _ (List.mem_of_getElem? (i := 26) rfl)
theorem ow27 {Z : State} {a0 : Array Value} (hw : ∀ d ∈ tables_1, d.before a0 Z = true) : (Jvm.Cond.instanceMethod ({ cls := "java/lang/String", name := "isLatin1", desc := "()Z" } : Jvm.MethodName)).before a0 Z = true := hw _ (List.mem_of_getElem? (i := 27) rfl)
theorem ow32 {Z : State} {a0 : Array Value} (hw : ∀ d ∈ tables_1, d.before a0 Z = true) : (Jvm.Cond.fieldLink "java/lang/String" (9 : Nat) "java/lang/String" "value" "[B").before a0 Z = true := hw _ (List.mem_of_getElem? (i := 32) rfl)
theorem ow33 {Z : State} {a0 : Array Value} (hw : ∀ d ∈ tables_1, d.before a0 Z = true) : (Jvm.Cond.methodLink "java/lang/String" (495 : Nat) ({ cls := "java/lang/StringLatin1", name := "charAt", desc := "([BI)C" } : Jvm.MethodName)).before a0 Z = true := hw _ (List.mem_of_getElem? (i := 33) rfl)
theorem ow36 {Z : State} {a0 : Array Value} (hw : ∀ d ∈ tables_1, d.before a0 Z = true) : (Jvm.Cond.code ({ cls := "java/lang/StringLatin1", name := "charAt", desc := "([BI)C" } : Jvm.MethodName) jdk_43_method_2_code (2 : Nat) (Option.some Jvm.ClassFile.FieldType.char)).before a0 Z = true := hw _ (List.mem_of_getElem? (i := 36) rfl)
theorem ow35 {Z : State} {a0 : Array Value} (hw : ∀ d ∈ tables_1, d.before a0 Z = true) : (Jvm.Cond.initialized "java/lang/StringLatin1").before a0 Z = true := hw _ (List.mem_of_getElem? (i := 35) rfl)
theorem ow34 {Z : State} {a0 : Array Value} (hw : ∀ d ∈ tables_1, d.before a0 Z = true) : (Jvm.Cond.static ({ cls := "java/lang/StringLatin1", name := "charAt", desc := "([BI)C" } : Jvm.MethodName)).before a0 Z = true := hw _ (List.mem_of_getElem? (i := 34) rfl)
abbrev mn4 : MethodName := ⟨"java/lang/String", "charAt", "(I)C"⟩
theorem ow50 {Z : State} {a0 : Array Value} (hw : ∀ d ∈ tables_1, d.before a0 Z = true) : (Jvm.Cond.fieldLink "com/example/tuple/tuple/model/Kind" (3 : Nat) "com/example/tuple/tuple/model/Kind" "NUMBER" "Lcom/example/tuple/tuple/model/Kind;").before a0 Z = true := hw _ (List.mem_of_getElem? (i := 50) rfl)
abbrev mn5 : MethodName := ⟨"com/example/tuple/tuple/model/Kind", "ofSqlType", "(I)Lcom/example/tuple/tuple/model/Kind;"⟩
theorem ow56 {Z : State} {a0 : Array Value} (hw : ∀ d ∈ tables_1, d.before a0 Z = true) : (Jvm.Cond.fieldLink "com/example/tuple/tuple/model/Kind" (7 : Nat) "com/example/tuple/tuple/model/Kind" "TEXT" "Lcom/example/tuple/tuple/model/Kind;").before a0 Z = true := hw _ (List.mem_of_getElem? (i := 56) rfl)
theorem ow53 {Z : State} {a0 : Array Value} (hw : ∀ d ∈ tables_1, d.before a0 Z = true) : (Jvm.Cond.fieldLink "com/example/tuple/tuple/model/Kind" (10 : Nat) "com/example/tuple/tuple/model/Kind" "TEMPORAL" "Lcom/example/tuple/tuple/model/Kind;").before a0 Z = true := hw _ (List.mem_of_getElem? (i := 53) rfl)
theorem ow66 {Z : State} {a0 : Array Value} (hw : ∀ d ∈ tables_1, d.before a0 Z = true) : (Jvm.Cond.fieldLink "com/example/tuple/tuple/model/Kind" (13 : Nat) "com/example/tuple/tuple/model/Kind" "BOOLEAN" "Lcom/example/tuple/tuple/model/Kind;").before a0 Z = true := hw _ (List.mem_of_getElem? (i := 66) rfl)
theorem ow63 {Z : State} {a0 : Array Value} (hw : ∀ d ∈ tables_1, d.before a0 Z = true) : (Jvm.Cond.fieldLink "com/example/tuple/tuple/model/Kind" (16 : Nat) "com/example/tuple/tuple/model/Kind" "BINARY" "Lcom/example/tuple/tuple/model/Kind;").before a0 Z = true := hw _ (List.mem_of_getElem? (i := 63) rfl)
theorem ow7 {Z : State} {a0 : Array Value} (hw : ∀ d ∈ tables_1, d.before a0 Z = true) : (Jvm.Cond.fieldLink "com/example/tuple/tuple/model/Kind" (19 : Nat) "com/example/tuple/tuple/model/Kind" "OTHER" "Lcom/example/tuple/tuple/model/Kind;").before a0 Z = true := hw _ (List.mem_of_getElem? (i := 7) rfl)
theorem ow1 {Z : State} {a0 : Array Value} (hw : ∀ d ∈ tables_1, d.before a0 Z = true) : (Jvm.Cond.fieldLink "com/example/tuple/tuple/model/KindOfSqlTypePinLaw" (23 : Nat) "com/example/tuple/tuple/model/Kind" "OTHER" "Lcom/example/tuple/tuple/model/Kind;").before a0 Z = true := hw _ (List.mem_of_getElem? (i := 1) rfl)
theorem ow48 {Z : State} {a0 : Array Value} (hw : ∀ d ∈ tables_1, d.before a0 Z = true) : (Jvm.Cond.fieldLink "com/example/tuple/tuple/model/KindOfSqlTypePinLaw" (29 : Nat) "com/example/tuple/tuple/model/Kind" "NUMBER" "Lcom/example/tuple/tuple/model/Kind;").before a0 Z = true := hw _ (List.mem_of_getElem? (i := 48) rfl)
abbrev mn6 : MethodName := ⟨"com/example/tuple/tuple/model/KindOfSqlTypePinLaw", "kindOf", "(C)Lcom/example/tuple/tuple/model/Kind;"⟩
theorem ow54 {Z : State} {a0 : Array Value} (hw : ∀ d ∈ tables_1, d.before a0 Z = true) : (Jvm.Cond.fieldLink "com/example/tuple/tuple/model/KindOfSqlTypePinLaw" (32 : Nat) "com/example/tuple/tuple/model/Kind" "TEXT" "Lcom/example/tuple/tuple/model/Kind;").before a0 Z = true := hw _ (List.mem_of_getElem? (i := 54) rfl)
theorem ow51 {Z : State} {a0 : Array Value} (hw : ∀ d ∈ tables_1, d.before a0 Z = true) : (Jvm.Cond.fieldLink "com/example/tuple/tuple/model/KindOfSqlTypePinLaw" (35 : Nat) "com/example/tuple/tuple/model/Kind" "TEMPORAL" "Lcom/example/tuple/tuple/model/Kind;").before a0 Z = true := hw _ (List.mem_of_getElem? (i := 51) rfl)
theorem ow64 {Z : State} {a0 : Array Value} (hw : ∀ d ∈ tables_1, d.before a0 Z = true) : (Jvm.Cond.fieldLink "com/example/tuple/tuple/model/KindOfSqlTypePinLaw" (38 : Nat) "com/example/tuple/tuple/model/Kind" "BOOLEAN" "Lcom/example/tuple/tuple/model/Kind;").before a0 Z = true := hw _ (List.mem_of_getElem? (i := 64) rfl)
theorem ow61 {Z : State} {a0 : Array Value} (hw : ∀ d ∈ tables_1, d.before a0 Z = true) : (Jvm.Cond.fieldLink "com/example/tuple/tuple/model/KindOfSqlTypePinLaw" (41 : Nat) "com/example/tuple/tuple/model/Kind" "BINARY" "Lcom/example/tuple/tuple/model/Kind;").before a0 Z = true := hw _ (List.mem_of_getElem? (i := 61) rfl)
theorem ow12 {Z : State} {a0 : Array Value} (hw : ∀ d ∈ tables_1, d.before a0 Z = true) : (Jvm.Cond.stringLink "com/example/tuple/tuple/model/KindOfSqlTypePinLaw" (7 : Nat) "TTOOOOOTOBNNYYYTOTNNNNNNNOOOTOOOB").before a0 Z = true := hw _ (List.mem_of_getElem? (i := 12) rfl)
theorem ow20 {Z : State} {a0 : Array Value} (hw : ∀ d ∈ tables_1, d.before a0 Z = true) : (Jvm.Cond.methodLink "com/example/tuple/tuple/model/KindOfSqlTypePinLaw" (9 : Nat) ({ cls := "java/lang/String", name := "charAt", desc := "(I)C" } : Jvm.MethodName)).before a0 Z = true := hw _ (List.mem_of_getElem? (i := 20) rfl)
theorem ow24 {Z : State} {a0 : Array Value} (hw : ∀ d ∈ tables_1, d.before a0 Z = true) : (Jvm.Cond.code ({ cls := "java/lang/String", name := "charAt", desc := "(I)C" } : Jvm.MethodName) jdk_42_method_56_code (2 : Nat) (Option.some Jvm.ClassFile.FieldType.char)).before a0 Z = true := hw _ (List.mem_of_getElem? (i := 24) rfl)
theorem ow23 {Z : State} {a0 : Array Value} (hw : ∀ d ∈ tables_1, d.before a0 Z = true) : (Jvm.Cond.selects "java/lang/String" ({ cls := "java/lang/String", name := "charAt", desc := "(I)C" } : Jvm.MethodName) ({ cls := "java/lang/String", name := "charAt", desc := "(I)C" } : Jvm.MethodName)).before a0 Z = true := hw _ (List.mem_of_getElem? (i := 23) rfl)
theorem ow21 {Z : State} {a0 : Array Value} (hw : ∀ d ∈ tables_1, d.before a0 Z = true) : (Jvm.Cond.declares ({ cls := "java/lang/String", name := "charAt", desc := "(I)C" } : Jvm.MethodName)).before a0 Z = true := hw _ (List.mem_of_getElem? (i := 21) rfl)
theorem ow22 {Z : State} {a0 : Array Value} (hw : ∀ d ∈ tables_1, d.before a0 Z = true) : (Jvm.Cond.instanceMethod ({ cls := "java/lang/String", name := "charAt", desc := "(I)C" } : Jvm.MethodName)).before a0 Z = true := hw _ (List.mem_of_getElem? (i := 22) rfl)
theorem ow45 {Z : State} {a0 : Array Value} (hw : ∀ d ∈ tables_1, d.before a0 Z = true) : (Jvm.Cond.methodLink "com/example/tuple/tuple/model/KindOfSqlTypePinLaw" (15 : Nat) ({ cls := "com/example/tuple/tuple/model/KindOfSqlTypePinLaw", name := "kindOf", desc := "(C)Lcom/example/tuple/tuple/model/Kind;" } : Jvm.MethodName)).before a0 Z = true := hw _ (List.mem_of_getElem? (i := 45) rfl)
theorem ow47 {Z : State} {a0 : Array Value} (hw : ∀ d ∈ tables_1, d.before a0 Z = true) : (Jvm.Cond.code ({ cls := "com/example/tuple/tuple/model/KindOfSqlTypePinLaw", name := "kindOf", desc := "(C)Lcom/example/tuple/tuple/model/Kind;" } : Jvm.MethodName) method_4_code (2 : Nat) (Option.some (Jvm.ClassFile.FieldType.object "com/example/tuple/tuple/model/Kind"))).before a0 Z = true := hw _ (List.mem_of_getElem? (i := 47) rfl)
theorem ow10 {Z : State} {a0 : Array Value} (hw : ∀ d ∈ tables_1, d.before a0 Z = true) : (Jvm.Cond.initialized "com/example/tuple/tuple/model/KindOfSqlTypePinLaw").before a0 Z = true := hw _ (List.mem_of_getElem? (i := 10) rfl)
theorem ow46 {Z : State} {a0 : Array Value} (hw : ∀ d ∈ tables_1, d.before a0 Z = true) : (Jvm.Cond.static ({ cls := "com/example/tuple/tuple/model/KindOfSqlTypePinLaw", name := "kindOf", desc := "(C)Lcom/example/tuple/tuple/model/Kind;" } : Jvm.MethodName)).before a0 Z = true := hw _ (List.mem_of_getElem? (i := 46) rfl)
abbrev mn7 : MethodName := ⟨"com/example/tuple/tuple/model/KindOfSqlTypePinLaw", "low", "(I)Lcom/example/tuple/tuple/model/Kind;"⟩
theorem ow60 {Z : State} {a0 : Array Value} (hw : ∀ d ∈ tables_1, d.before a0 Z = true) : (Jvm.Cond.stringLink "com/example/tuple/tuple/model/KindOfSqlTypePinLaw" (21 : Nat) "YTOOOOOTOMM").before a0 Z = true := hw _ (List.mem_of_getElem? (i := 60) rfl)
abbrev mn8 : MethodName := ⟨"com/example/tuple/tuple/model/KindOfSqlTypePinLaw", "high", "(I)Lcom/example/tuple/tuple/model/Kind;"⟩
theorem ow4 {Z : State} {a0 : Array Value} (hw : ∀ d ∈ tables_1, d.before a0 Z = true) : (Jvm.Cond.methodLink "com/example/tuple/tuple/model/KindOfSqlTypePinLaw" (52 : Nat) ({ cls := "com/example/tuple/tuple/model/Kind", name := "ofSqlType", desc := "(I)Lcom/example/tuple/tuple/model/Kind;" } : Jvm.MethodName)).before a0 Z = true := hw _ (List.mem_of_getElem? (i := 4) rfl)
theorem ow6 {Z : State} {a0 : Array Value} (hw : ∀ d ∈ tables_1, d.before a0 Z = true) : (Jvm.Cond.code ({ cls := "com/example/tuple/tuple/model/Kind", name := "ofSqlType", desc := "(I)Lcom/example/tuple/tuple/model/Kind;" } : Jvm.MethodName) prog_4_method_4_code (1 : Nat) (Option.some (Jvm.ClassFile.FieldType.object "com/example/tuple/tuple/model/Kind"))).before a0 Z = true := hw _ (List.mem_of_getElem? (i := 6) rfl)
theorem ow2 {Z : State} {a0 : Array Value} (hw : ∀ d ∈ tables_1, d.before a0 Z = true) : (Jvm.Cond.initialized "com/example/tuple/tuple/model/Kind").before a0 Z = true := hw _ (List.mem_of_getElem? (i := 2) rfl)
theorem ow5 {Z : State} {a0 : Array Value} (hw : ∀ d ∈ tables_1, d.before a0 Z = true) : (Jvm.Cond.static ({ cls := "com/example/tuple/tuple/model/Kind", name := "ofSqlType", desc := "(I)Lcom/example/tuple/tuple/model/Kind;" } : Jvm.MethodName)).before a0 Z = true := hw _ (List.mem_of_getElem? (i := 5) rfl)
theorem ow57 {Z : State} {a0 : Array Value} (hw : ∀ d ∈ tables_1, d.before a0 Z = true) : (Jvm.Cond.methodLink "com/example/tuple/tuple/model/KindOfSqlTypePinLaw" (49 : Nat) ({ cls := "com/example/tuple/tuple/model/KindOfSqlTypePinLaw", name := "high", desc := "(I)Lcom/example/tuple/tuple/model/Kind;" } : Jvm.MethodName)).before a0 Z = true := hw _ (List.mem_of_getElem? (i := 57) rfl)
theorem ow59 {Z : State} {a0 : Array Value} (hw : ∀ d ∈ tables_1, d.before a0 Z = true) : (Jvm.Cond.code ({ cls := "com/example/tuple/tuple/model/KindOfSqlTypePinLaw", name := "high", desc := "(I)Lcom/example/tuple/tuple/model/Kind;" } : Jvm.MethodName) method_3_code (1 : Nat) (Option.some (Jvm.ClassFile.FieldType.object "com/example/tuple/tuple/model/Kind"))).before a0 Z = true := hw _ (List.mem_of_getElem? (i := 59) rfl)
theorem ow58 {Z : State} {a0 : Array Value} (hw : ∀ d ∈ tables_1, d.before a0 Z = true) : (Jvm.Cond.static ({ cls := "com/example/tuple/tuple/model/KindOfSqlTypePinLaw", name := "high", desc := "(I)Lcom/example/tuple/tuple/model/Kind;" } : Jvm.MethodName)).before a0 Z = true := hw _ (List.mem_of_getElem? (i := 58) rfl)
theorem ow8 {Z : State} {a0 : Array Value} (hw : ∀ d ∈ tables_1, d.before a0 Z = true) : (Jvm.Cond.methodLink "com/example/tuple/tuple/model/KindOfSqlTypePinLaw" (45 : Nat) ({ cls := "com/example/tuple/tuple/model/KindOfSqlTypePinLaw", name := "low", desc := "(I)Lcom/example/tuple/tuple/model/Kind;" } : Jvm.MethodName)).before a0 Z = true := hw _ (List.mem_of_getElem? (i := 8) rfl)
theorem ow11 {Z : State} {a0 : Array Value} (hw : ∀ d ∈ tables_1, d.before a0 Z = true) : (Jvm.Cond.code ({ cls := "com/example/tuple/tuple/model/KindOfSqlTypePinLaw", name := "low", desc := "(I)Lcom/example/tuple/tuple/model/Kind;" } : Jvm.MethodName) method_2_code (1 : Nat) (Option.some (Jvm.ClassFile.FieldType.object "com/example/tuple/tuple/model/Kind"))).before a0 Z = true := hw _ (List.mem_of_getElem? (i := 11) rfl)
theorem ow9 {Z : State} {a0 : Array Value} (hw : ∀ d ∈ tables_1, d.before a0 Z = true) : (Jvm.Cond.static ({ cls := "com/example/tuple/tuple/model/KindOfSqlTypePinLaw", name := "low", desc := "(I)Lcom/example/tuple/tuple/model/Kind;" } : Jvm.MethodName)).before a0 Z = true := hw _ (List.mem_of_getElem? (i := 9) rfl)
theorem ow0 {Z : State} {a0 : Array Value} (hw : ∀ d ∈ tables_1, d.before a0 Z = true) : (Jvm.Cond.constant "com/example/tuple/tuple/model/KindOfSqlTypePinLaw" (44 : Nat) (2147483647 : Int32)).before a0 Z = true := hw _ (List.mem_of_getElem? (i := 0) rfl)
theorem ow3 {Z : State} {a0 : Array Value} (hw : ∀ d ∈ tables_1, d.before a0 Z = true) : (Jvm.Cond.laysStatic "com/example/tuple/tuple/model/Kind" "OTHER" "Lcom/example/tuple/tuple/model/Kind;").before a0 Z = true := hw _ (List.mem_of_getElem? (i := 3) rfl)
theorem ow49 {Z : State} {a0 : Array Value} (hw : ∀ d ∈ tables_1, d.before a0 Z = true) : (Jvm.Cond.laysStatic "com/example/tuple/tuple/model/Kind" "NUMBER" "Lcom/example/tuple/tuple/model/Kind;").before a0 Z = true := hw _ (List.mem_of_getElem? (i := 49) rfl)
theorem ow52 {Z : State} {a0 : Array Value} (hw : ∀ d ∈ tables_1, d.before a0 Z = true) : (Jvm.Cond.laysStatic "com/example/tuple/tuple/model/Kind" "TEMPORAL" "Lcom/example/tuple/tuple/model/Kind;").before a0 Z = true := hw _ (List.mem_of_getElem? (i := 52) rfl)
theorem ow55 {Z : State} {a0 : Array Value} (hw : ∀ d ∈ tables_1, d.before a0 Z = true) : (Jvm.Cond.laysStatic "com/example/tuple/tuple/model/Kind" "TEXT" "Lcom/example/tuple/tuple/model/Kind;").before a0 Z = true := hw _ (List.mem_of_getElem? (i := 55) rfl)
theorem ow62 {Z : State} {a0 : Array Value} (hw : ∀ d ∈ tables_1, d.before a0 Z = true) : (Jvm.Cond.laysStatic "com/example/tuple/tuple/model/Kind" "BINARY" "Lcom/example/tuple/tuple/model/Kind;").before a0 Z = true := hw _ (List.mem_of_getElem? (i := 62) rfl)
theorem ow65 {Z : State} {a0 : Array Value} (hw : ∀ d ∈ tables_1, d.before a0 Z = true) : (Jvm.Cond.laysStatic "com/example/tuple/tuple/model/Kind" "BOOLEAN" "Lcom/example/tuple/tuple/model/Kind;").before a0 Z = true := hw _ (List.mem_of_getElem? (i := 65) rfl)
theorem own_addI {a b : Int32} (h1 : -2147483648 ≤ a.toInt + b.toInt) (h2 : a.toInt + b.toInt < 2147483648) : (a + b).toInt = a.toInt + b.toInt := by
  rw [Int32.toInt_add]; exact Int.bmod_eq_of_le (by omega) (by omega)
theorem own_subI {a b : Int32} (h1 : -2147483648 ≤ a.toInt - b.toInt) (h2 : a.toInt - b.toInt < 2147483648) : (a - b).toInt = a.toInt - b.toInt := by
  rw [Int32.toInt_sub]; exact Int.bmod_eq_of_le (by omega) (by omega)
theorem own_mulI {a b : Int32} (h1 : -2147483648 ≤ a.toInt * b.toInt) (h2 : a.toInt * b.toInt < 2147483648) : (a * b).toInt = a.toInt * b.toInt := by
  rw [Int32.toInt_mul]; exact Int.bmod_eq_of_le (by omega) (by omega)
theorem own_nat32 (x : Int32) (h : 0 ≤ x.toInt) : x.toInt = (x.toBitVec.toNat : Int) := by
  have e : x.toInt = x.toBitVec.toInt := rfl
  rw [BitVec.toInt_eq_toNat_cond] at e
  have := x.toBitVec.isLt
  split at e <;> omega
theorem own_maskI (x m : Int32) (h : 0 ≤ m.toInt) : 0 ≤ (x &&& m).toInt ∧ (x &&& m).toInt ≤ m.toInt := by
  have hm := own_nat32 m h
  have h1 : (x &&& m).toBitVec.toNat ≤ m.toBitVec.toNat := by rw [Int32.toBitVec_and, BitVec.toNat_and]; exact Nat.and_le_right
  have e : (x &&& m).toInt = (x &&& m).toBitVec.toInt := rfl
  have hl := Int32.toInt_lt m
  rw [e, BitVec.toInt_eq_toNat_cond]
  split <;> omega
theorem own_ltI {a b : Int32} : a < b ↔ a.toInt < b.toInt := Int32.lt_iff_toInt_lt
def own_el (vs : List Value) (j : Int32) : Int32 := match vs.getD j.toNatClampNeg (.int (0 : Int32)) with | .int z => z | _ => 0
def own_Ints (vs : List Value) : Prop := ∀ n, ∃ z, vs.getD n (.int (0 : Int32)) = .int z
theorem own_ints_nil : own_Ints [] := fun _ => ⟨0, rfl⟩
theorem own_ints_cons {z : Int32} {vs : List Value} (h : own_Ints vs) : own_Ints (.int z :: vs) := fun n => match n with
  | 0 => ⟨z, rfl⟩
  | n + 1 => h n
theorem own_el_at {vs : List Value} (h : own_Ints vs) (j : Int32) : vs.getD j.toNatClampNeg (.int (0 : Int32)) = .int (own_el vs j) := by
  obtain ⟨z, hz⟩ := h j.toNatClampNeg
  simp only [own_el, hz]
def own_ch (vs : List Value) (j : Int32) : Int32 := nar .char ((own_el vs j &&& (255 : Int32)).toUInt32.toUInt16.toUInt32.toInt32)
theorem own_fld_of {s : State} {args : Array Value} {t : Term} {a : Addr} {C n d : String} {k : Int32} (ev : t.eval args s none [] s = some (.ref a)) (h : (Cond.eq (.field t C n d) (.int k)).value args s none s [] = some true) : Fld s s.heap a C n d (.int k) := by
  obtain ⟨x, y, h1, h2, k1, k2⟩ := cmp_v (Or.inl h)
  have h3 : y = .int k := (Option.some.inj h2).symm
  subst h3
  obtain ⟨z, rfl⟩ := k2
  have hz : z = k := by
    have h' := h
    simp only [Cond.value, h1, h2] at h'
    simpa using h'
  subst hz
  refine Fld.start ?_
  simpa [Term.eval, ev] using h1

section OwnW
variable {p : Program} {l : Launch} {e : Env} {R : Room} {s : State} {m : MethodId} {args : Array Value} {below : List Frame} {meth : Method} {c : Code} {T T' : State} {locs : List Loc} {cells slots cc nn : Nat} {f f' : JFrame} {Q : Option Value → Heap → Vm → List Loc → Prop} {Z B : State} {h h' : Heap} {a0 : Array Value}
/-- the same where String constants may have been loaded since the start -/
def own_EndsW (p : Program) (e : Env) (below : List Frame) (s : State) (Q : Option Value → Heap → Vm → List Loc → Prop) (cc nn : Nat) (T : State) (f : JFrame) : Prop :=
  ∃ s₂ o, Steps p.tables e below (T.setTop f) s₂ ∧ s₂.status = .running ∧ Ended s₂ below o ∧ ∃ v L, o = .returned v ∧ Q v s₂.heap s₂.vm L ∧ ReturnedEndW s o s₂ L cc nn
theorem own_goW (k : ∀ t, Steps p.tables e below (T'.setTop f') t → Steps p.tables e below (T.setTop f) t) (h : own_EndsW p e below s Q cc nn T' f') : own_EndsW p e below s Q cc nn T f := by
  obtain ⟨s₂, o, h1, h2⟩ := h
  exact ⟨s₂, o, k _ h1, h2⟩
theorem own_retW {vm₁ : Vm} {n : Nat} (X : Stand p l e R (s.setVm vm₁) m args below meth c T locs cells slots) (hS : s.Since vm₁ n) (hn : n ≤ T.heap.size) {v : Option Value} (hv : meth.sig.returnType = none → v = none) (hlk : meth.locks = false)
    (st : ∀ fs, (∀ (f : JFrame) (acts : List Action), f.method = m → f.locked = none → f.entered = [] → (doReturn e (T.setTop f) acts v).1 = T.setFrames fs) → Steps p.tables e below (T.setTop f) (T.setFrames fs)) (hQ : Q v T.heap T.vm locs) (h1 : cells ≤ cc) (h2 : slots ≤ nn) :
    own_EndsW p e below s Q cc nn T f := by
  obtain ⟨fs, hr, hrun, hended, ⟨ha, hb, hc, hd⟩⟩ := X.leaveW hS hn (v := v) hv hlk
  exact ⟨_, _, st fs hr, hrun, hended, _, _, rfl, hQ, ha, hb, hc, hd.mono h1 h2⟩
theorem own_sm {vm₁ : Vm} {n n' : Nat} (h : s.Since vm₁ n) (hn : n ≤ n') : s.Since vm₁ n' := ⟨h.1, fun j p hj hp => by obtain ⟨x, y⟩ := h.2 j p hj hp; exact ⟨x, Nat.lt_of_lt_of_le y hn⟩⟩
theorem own_ib {Ts : List String} (I : IB Z B.vm Ts) (hB : B.WarmedH s.vm) : IB Z s.vm Ts := by
  obtain ⟨more, h1, h2⟩ := I
  exact ⟨more, by rw [hB.interned_eq]; exact h1, h2⟩
theorem own_backS {y : MethodName} {bytes : ByteArray} {maxL : Nat} {ret : Option FieldType} {rm : Room} {len W : Nat} {as' : Array Value}
    (hM : MetFree l y (head1 [Cond.code y bytes maxL ret] rm) (fun a U => a = as' ∧ Z.Warmed39 U.vm ∧ s.WarmedH U.vm ∧ U.heap = h) (fun _ _ _ _ _ => True) (fun _ U o U' => ∃ v L, o = .returned v ∧ Q v U'.heap U'.vm L ∧ ReturnedEndW U o U' L rm.cells rm.slots))
    (hZ : Z.Warmed39 s.vm) (wc : (Cond.code y bytes maxL ret).before a0 Z = true) (wz : (Cond.initialized y.cls).before a0 Z = true) (hf : rm.frames + 1 ≤ R.frames) (hl : W + (maxL + 11) + rm.locals ≤ R.locals) :
    BackS l R p e below s args y len W (fun A a => a = as' ∧ A.U.heap = h ∧ A.cells + rm.cells ≤ R.cells ∧ A.slots + rm.slots ≤ R.slots)
      (fun A _ v B => ∃ L, Q v B.U.heap B.U.vm L ∧ B.locs = A.locs ++ L ∧ B.cells = A.cells + rm.cells ∧ B.slots = A.slots + rm.slots) :=
  BackS.of_freeW (bytes := bytes) (maxL := maxL) (ret := ret) (E := fun _ _ o t L k n => k = rm.cells ∧ n = rm.slots ∧ ∃ v, o = .returned v ∧ Q v t.heap t.vm L) hM hf hl
    (fun _ _ _ A a Y hp => have hU : Z.Warmed39 A.U.vm := wtrans hZ Y.warmed
      ⟨by show (Cond.and _ .tt).before a A.U = true; rw [Cond.before_and, mv hU wc]; rfl, mv hU wc, mv hU wz, hp.2.2.1, hp.2.2.2⟩)
    (fun _ _ _ _ _ _ _ Y hp => ⟨hp.1, wtrans hZ Y.warmed, Y.warmed, hp.2.1⟩) (fun _ _ _ _ _ _ _ _ _ => trivial)
    (fun _ _ _ _ ⟨v, L, h1, h2, h3⟩ => ⟨L, _, _, h3, rfl, rfl, v, h1, h2⟩)
    (fun _ _ _ _ _ _ _ _ _ L _ _ _ _ _ _ ⟨e1, e2, _, e3, e4⟩ => by cases e3; subst e1 e2; exact ⟨L, e4, rfl, rfl, rfl⟩)
theorem own_backB {y : MethodName} {bytes : ByteArray} {maxL : Nat} {ret : Option FieldType} {rm : Room} {len W : Nat} {as' : Array Value} {Q : Option Value → Heap → List Loc → Prop}
    (hM : MetFree l y (head1 [Cond.code y bytes maxL ret] rm) (fun a U => a = as' ∧ Z.Warmed39 U.vm ∧ s.WarmedH U.vm ∧ U.heap = h) (fun _ _ _ _ _ => True) (fun _ U o U' => ∃ v L, o = .returned v ∧ Q v U'.heap L ∧ FrameEnd U o U' L rm.cells rm.slots))
    (hZ : Z.Warmed39 s.vm) (wc : (Cond.code y bytes maxL ret).before a0 Z = true) (wz : (Cond.initialized y.cls).before a0 Z = true) (hf : rm.frames + 1 ≤ R.frames) (hl : W + (maxL + 11) + rm.locals ≤ R.locals) :
    Back l R p e below s args y len W (fun A a => a = as' ∧ A.U.heap = h ∧ A.cells + rm.cells ≤ R.cells ∧ A.slots + rm.slots ≤ R.slots)
      (fun A _ v B => ∃ L, Q v B.U.heap L ∧ B.locs = A.locs ++ L ∧ B.cells = A.cells + rm.cells ∧ B.slots = A.slots + rm.slots) :=
  Back.of_free (bytes := bytes) (maxL := maxL) (ret := ret) (E := fun _ _ o t L k n => k = rm.cells ∧ n = rm.slots ∧ ∃ v, o = .returned v ∧ Q v t.heap L) hM hf hl
    (fun _ _ _ A a Y hp => have hU : Z.Warmed39 A.U.vm := wtrans hZ Y.warmed
      ⟨by show (Cond.and _ .tt).before a A.U = true; rw [Cond.before_and, mv hU wc]; rfl, mv hU wc, mv hU wz, hp.2.2.1, hp.2.2.2⟩)
    (fun _ _ _ _ _ _ _ Y hp => ⟨hp.1, wtrans hZ Y.warmed, Y.warmed, hp.2.1⟩) (fun _ _ _ _ _ _ _ _ _ => trivial)
    (fun _ _ _ _ ⟨v, L, h1, h2, h3⟩ => ⟨L, _, _, h3, rfl, rfl, v, h1, h2⟩)
    (fun _ _ _ _ _ _ _ _ _ L _ _ _ _ _ _ ⟨e1, e2, _, e3, e4⟩ => by cases e3; subst e1 e2; exact ⟨L, e4, rfl, rfl, rfl⟩)
end OwnW
theorem own_wS {Z : State} {a0 : Array Value} (hw : ∀ d ∈ tables_1, d.before a0 Z = true) : ∀ a ∈ Bundle.stringAtoms, a.before a0 Z = true := by
  intro a ha
  have H := fun (k : Nat) (d : Jvm.Cond) (e : tables_1[k]? = some d) => hw d (List.mem_of_getElem? e)
  simp only [Bundle.stringAtoms, List.mem_cons, List.not_mem_nil, or_false] at ha
  rcases ha with rfl | rfl | rfl | rfl | rfl | rfl | rfl
  all_goals first | exact H 13 _ rfl | exact H 14 _ rfl | exact H 15 _ rfl | exact H 16 _ rfl | exact H 17 _ rfl | exact H 18 _ rfl | exact H 19 _ rfl
theorem own_lit0_int : own_Ints own_lit0 := (own_ints_cons (own_ints_cons (own_ints_cons (own_ints_cons (own_ints_cons (own_ints_cons (own_ints_cons (own_ints_cons (own_ints_cons (own_ints_cons (own_ints_cons (own_ints_cons (own_ints_cons (own_ints_cons (own_ints_cons (own_ints_cons (own_ints_cons (own_ints_cons (own_ints_cons (own_ints_cons (own_ints_cons (own_ints_cons (own_ints_cons (own_ints_cons (own_ints_cons (own_ints_cons (own_ints_cons (own_ints_cons (own_ints_cons (own_ints_cons (own_ints_cons (own_ints_cons (own_ints_cons own_ints_nil)))))))))))))))))))))))))))))))))
theorem own_lit1_int : own_Ints own_lit1 := (own_ints_cons (own_ints_cons (own_ints_cons (own_ints_cons (own_ints_cons (own_ints_cons (own_ints_cons (own_ints_cons (own_ints_cons (own_ints_cons (own_ints_cons own_ints_nil)))))))))))
theorem own_r1 {x : Int32} (h1 : ¬ x < (-16 : Int32)) (h2 : ¬ (16 : Int32) < x) : x = (-16 : Int32) ∨ x = (-15 : Int32) ∨ x = (-14 : Int32) ∨ x = (-13 : Int32) ∨ x = (-12 : Int32) ∨ x = (-11 : Int32) ∨ x = (-10 : Int32) ∨ x = (-9 : Int32) ∨ x = (-8 : Int32) ∨ x = (-7 : Int32) ∨ x = (-6 : Int32) ∨ x = (-5 : Int32) ∨ x = (-4 : Int32) ∨ x = (-3 : Int32) ∨ x = (-2 : Int32) ∨ x = (-1 : Int32) ∨ x = (0 : Int32) ∨ x = (1 : Int32) ∨ x = (2 : Int32) ∨ x = (3 : Int32) ∨ x = (4 : Int32) ∨ x = (5 : Int32) ∨ x = (6 : Int32) ∨ x = (7 : Int32) ∨ x = (8 : Int32) ∨ x = (9 : Int32) ∨ x = (10 : Int32) ∨ x = (11 : Int32) ∨ x = (12 : Int32) ∨ x = (13 : Int32) ∨ x = (14 : Int32) ∨ x = (15 : Int32) ∨ x = (16 : Int32) := by
  rw [own_ltI] at h1 h2
  have e1 : (-16 : Int32).toInt = -16 := rfl
  have e2 : (16 : Int32).toInt = 16 := rfl
  have h3 : x.toInt = (-16) ∨ x.toInt = (-15) ∨ x.toInt = (-14) ∨ x.toInt = (-13) ∨ x.toInt = (-12) ∨ x.toInt = (-11) ∨ x.toInt = (-10) ∨ x.toInt = (-9) ∨ x.toInt = (-8) ∨ x.toInt = (-7) ∨ x.toInt = (-6) ∨ x.toInt = (-5) ∨ x.toInt = (-4) ∨ x.toInt = (-3) ∨ x.toInt = (-2) ∨ x.toInt = (-1) ∨ x.toInt = 0 ∨ x.toInt = 1 ∨ x.toInt = 2 ∨ x.toInt = 3 ∨ x.toInt = 4 ∨ x.toInt = 5 ∨ x.toInt = 6 ∨ x.toInt = 7 ∨ x.toInt = 8 ∨ x.toInt = 9 ∨ x.toInt = 10 ∨ x.toInt = 11 ∨ x.toInt = 12 ∨ x.toInt = 13 ∨ x.toInt = 14 ∨ x.toInt = 15 ∨ x.toInt = 16 := by omega
  rcases h3 with h | h | h | h | h | h | h | h | h | h | h | h | h | h | h | h | h | h | h | h | h | h | h | h | h | h | h | h | h | h | h | h | h
  · exact Or.inl (Int32.toInt_inj.mp h)
  · exact Or.inr (Or.inl (Int32.toInt_inj.mp h))
  · exact Or.inr (Or.inr (Or.inl (Int32.toInt_inj.mp h)))
  · exact Or.inr (Or.inr (Or.inr (Or.inl (Int32.toInt_inj.mp h))))
  · exact Or.inr (Or.inr (Or.inr (Or.inr (Or.inl (Int32.toInt_inj.mp h)))))
  · exact Or.inr (Or.inr (Or.inr (Or.inr (Or.inr (Or.inl (Int32.toInt_inj.mp h))))))
  · exact Or.inr (Or.inr (Or.inr (Or.inr (Or.inr (Or.inr (Or.inl (Int32.toInt_inj.mp h)))))))
  · exact Or.inr (Or.inr (Or.inr (Or.inr (Or.inr (Or.inr (Or.inr (Or.inl (Int32.toInt_inj.mp h))))))))
  · exact Or.inr (Or.inr (Or.inr (Or.inr (Or.inr (Or.inr (Or.inr (Or.inr (Or.inl (Int32.toInt_inj.mp h)))))))))
  · exact Or.inr (Or.inr (Or.inr (Or.inr (Or.inr (Or.inr (Or.inr (Or.inr (Or.inr (Or.inl (Int32.toInt_inj.mp h))))))))))
  · exact Or.inr (Or.inr (Or.inr (Or.inr (Or.inr (Or.inr (Or.inr (Or.inr (Or.inr (Or.inr (Or.inl (Int32.toInt_inj.mp h)))))))))))
  · exact Or.inr (Or.inr (Or.inr (Or.inr (Or.inr (Or.inr (Or.inr (Or.inr (Or.inr (Or.inr (Or.inr (Or.inl (Int32.toInt_inj.mp h))))))))))))
  · exact Or.inr (Or.inr (Or.inr (Or.inr (Or.inr (Or.inr (Or.inr (Or.inr (Or.inr (Or.inr (Or.inr (Or.inr (Or.inl (Int32.toInt_inj.mp h)))))))))))))
  · exact Or.inr (Or.inr (Or.inr (Or.inr (Or.inr (Or.inr (Or.inr (Or.inr (Or.inr (Or.inr (Or.inr (Or.inr (Or.inr (Or.inl (Int32.toInt_inj.mp h))))))))))))))
  · exact Or.inr (Or.inr (Or.inr (Or.inr (Or.inr (Or.inr (Or.inr (Or.inr (Or.inr (Or.inr (Or.inr (Or.inr (Or.inr (Or.inr (Or.inl (Int32.toInt_inj.mp h)))))))))))))))
  · exact Or.inr (Or.inr (Or.inr (Or.inr (Or.inr (Or.inr (Or.inr (Or.inr (Or.inr (Or.inr (Or.inr (Or.inr (Or.inr (Or.inr (Or.inr (Or.inl (Int32.toInt_inj.mp h))))))))))))))))
  · exact Or.inr (Or.inr (Or.inr (Or.inr (Or.inr (Or.inr (Or.inr (Or.inr (Or.inr (Or.inr (Or.inr (Or.inr (Or.inr (Or.inr (Or.inr (Or.inr (Or.inl (Int32.toInt_inj.mp h)))))))))))))))))
  · exact Or.inr (Or.inr (Or.inr (Or.inr (Or.inr (Or.inr (Or.inr (Or.inr (Or.inr (Or.inr (Or.inr (Or.inr (Or.inr (Or.inr (Or.inr (Or.inr (Or.inr (Or.inl (Int32.toInt_inj.mp h))))))))))))))))))
  · exact Or.inr (Or.inr (Or.inr (Or.inr (Or.inr (Or.inr (Or.inr (Or.inr (Or.inr (Or.inr (Or.inr (Or.inr (Or.inr (Or.inr (Or.inr (Or.inr (Or.inr (Or.inr (Or.inl (Int32.toInt_inj.mp h)))))))))))))))))))
  · exact Or.inr (Or.inr (Or.inr (Or.inr (Or.inr (Or.inr (Or.inr (Or.inr (Or.inr (Or.inr (Or.inr (Or.inr (Or.inr (Or.inr (Or.inr (Or.inr (Or.inr (Or.inr (Or.inr (Or.inl (Int32.toInt_inj.mp h))))))))))))))))))))
  · exact Or.inr (Or.inr (Or.inr (Or.inr (Or.inr (Or.inr (Or.inr (Or.inr (Or.inr (Or.inr (Or.inr (Or.inr (Or.inr (Or.inr (Or.inr (Or.inr (Or.inr (Or.inr (Or.inr (Or.inr (Or.inl (Int32.toInt_inj.mp h)))))))))))))))))))))
  · exact Or.inr (Or.inr (Or.inr (Or.inr (Or.inr (Or.inr (Or.inr (Or.inr (Or.inr (Or.inr (Or.inr (Or.inr (Or.inr (Or.inr (Or.inr (Or.inr (Or.inr (Or.inr (Or.inr (Or.inr (Or.inr (Or.inl (Int32.toInt_inj.mp h))))))))))))))))))))))
  · exact Or.inr (Or.inr (Or.inr (Or.inr (Or.inr (Or.inr (Or.inr (Or.inr (Or.inr (Or.inr (Or.inr (Or.inr (Or.inr (Or.inr (Or.inr (Or.inr (Or.inr (Or.inr (Or.inr (Or.inr (Or.inr (Or.inr (Or.inl (Int32.toInt_inj.mp h)))))))))))))))))))))))
  · exact Or.inr (Or.inr (Or.inr (Or.inr (Or.inr (Or.inr (Or.inr (Or.inr (Or.inr (Or.inr (Or.inr (Or.inr (Or.inr (Or.inr (Or.inr (Or.inr (Or.inr (Or.inr (Or.inr (Or.inr (Or.inr (Or.inr (Or.inr (Or.inl (Int32.toInt_inj.mp h))))))))))))))))))))))))
  · exact Or.inr (Or.inr (Or.inr (Or.inr (Or.inr (Or.inr (Or.inr (Or.inr (Or.inr (Or.inr (Or.inr (Or.inr (Or.inr (Or.inr (Or.inr (Or.inr (Or.inr (Or.inr (Or.inr (Or.inr (Or.inr (Or.inr (Or.inr (Or.inr (Or.inl (Int32.toInt_inj.mp h)))))))))))))))))))))))))
  · exact Or.inr (Or.inr (Or.inr (Or.inr (Or.inr (Or.inr (Or.inr (Or.inr (Or.inr (Or.inr (Or.inr (Or.inr (Or.inr (Or.inr (Or.inr (Or.inr (Or.inr (Or.inr (Or.inr (Or.inr (Or.inr (Or.inr (Or.inr (Or.inr (Or.inr (Or.inl (Int32.toInt_inj.mp h))))))))))))))))))))))))))
  · exact Or.inr (Or.inr (Or.inr (Or.inr (Or.inr (Or.inr (Or.inr (Or.inr (Or.inr (Or.inr (Or.inr (Or.inr (Or.inr (Or.inr (Or.inr (Or.inr (Or.inr (Or.inr (Or.inr (Or.inr (Or.inr (Or.inr (Or.inr (Or.inr (Or.inr (Or.inr (Or.inl (Int32.toInt_inj.mp h)))))))))))))))))))))))))))
  · exact Or.inr (Or.inr (Or.inr (Or.inr (Or.inr (Or.inr (Or.inr (Or.inr (Or.inr (Or.inr (Or.inr (Or.inr (Or.inr (Or.inr (Or.inr (Or.inr (Or.inr (Or.inr (Or.inr (Or.inr (Or.inr (Or.inr (Or.inr (Or.inr (Or.inr (Or.inr (Or.inr (Or.inl (Int32.toInt_inj.mp h))))))))))))))))))))))))))))
  · exact Or.inr (Or.inr (Or.inr (Or.inr (Or.inr (Or.inr (Or.inr (Or.inr (Or.inr (Or.inr (Or.inr (Or.inr (Or.inr (Or.inr (Or.inr (Or.inr (Or.inr (Or.inr (Or.inr (Or.inr (Or.inr (Or.inr (Or.inr (Or.inr (Or.inr (Or.inr (Or.inr (Or.inr (Or.inl (Int32.toInt_inj.mp h)))))))))))))))))))))))))))))
  · exact Or.inr (Or.inr (Or.inr (Or.inr (Or.inr (Or.inr (Or.inr (Or.inr (Or.inr (Or.inr (Or.inr (Or.inr (Or.inr (Or.inr (Or.inr (Or.inr (Or.inr (Or.inr (Or.inr (Or.inr (Or.inr (Or.inr (Or.inr (Or.inr (Or.inr (Or.inr (Or.inr (Or.inr (Or.inr (Or.inl (Int32.toInt_inj.mp h))))))))))))))))))))))))))))))
  · exact Or.inr (Or.inr (Or.inr (Or.inr (Or.inr (Or.inr (Or.inr (Or.inr (Or.inr (Or.inr (Or.inr (Or.inr (Or.inr (Or.inr (Or.inr (Or.inr (Or.inr (Or.inr (Or.inr (Or.inr (Or.inr (Or.inr (Or.inr (Or.inr (Or.inr (Or.inr (Or.inr (Or.inr (Or.inr (Or.inr (Or.inl (Int32.toInt_inj.mp h)))))))))))))))))))))))))))))))
  · exact Or.inr (Or.inr (Or.inr (Or.inr (Or.inr (Or.inr (Or.inr (Or.inr (Or.inr (Or.inr (Or.inr (Or.inr (Or.inr (Or.inr (Or.inr (Or.inr (Or.inr (Or.inr (Or.inr (Or.inr (Or.inr (Or.inr (Or.inr (Or.inr (Or.inr (Or.inr (Or.inr (Or.inr (Or.inr (Or.inr (Or.inr (Or.inl (Int32.toInt_inj.mp h))))))))))))))))))))))))))))))))
  · exact Or.inr (Or.inr (Or.inr (Or.inr (Or.inr (Or.inr (Or.inr (Or.inr (Or.inr (Or.inr (Or.inr (Or.inr (Or.inr (Or.inr (Or.inr (Or.inr (Or.inr (Or.inr (Or.inr (Or.inr (Or.inr (Or.inr (Or.inr (Or.inr (Or.inr (Or.inr (Or.inr (Or.inr (Or.inr (Or.inr (Or.inr (Or.inr (Int32.toInt_inj.mp h))))))))))))))))))))))))))))))))
theorem own_r2 {x : Int32} (h1 : ¬ x < (91 : Int32)) (h2 : ¬ (93 : Int32) < x) : x = (91 : Int32) ∨ x = (92 : Int32) ∨ x = (93 : Int32) := by
  rw [own_ltI] at h1 h2
  have e1 : (91 : Int32).toInt = 91 := rfl
  have e2 : (93 : Int32).toInt = 93 := rfl
  have h3 : x.toInt = 91 ∨ x.toInt = 92 ∨ x.toInt = 93 := by omega
  rcases h3 with h | h | h
  · exact Or.inl (Int32.toInt_inj.mp h)
  · exact Or.inr (Or.inl (Int32.toInt_inj.mp h))
  · exact Or.inr (Or.inr (Int32.toInt_inj.mp h))
theorem own_r3 {x : Int32} (h1 : ¬ x < (2004 : Int32)) (h2 : ¬ (2014 : Int32) < x) : x = (2004 : Int32) ∨ x = (2005 : Int32) ∨ x = (2006 : Int32) ∨ x = (2007 : Int32) ∨ x = (2008 : Int32) ∨ x = (2009 : Int32) ∨ x = (2010 : Int32) ∨ x = (2011 : Int32) ∨ x = (2012 : Int32) ∨ x = (2013 : Int32) ∨ x = (2014 : Int32) := by
  rw [own_ltI] at h1 h2
  have e1 : (2004 : Int32).toInt = 2004 := rfl
  have e2 : (2014 : Int32).toInt = 2014 := rfl
  have h3 : x.toInt = 2004 ∨ x.toInt = 2005 ∨ x.toInt = 2006 ∨ x.toInt = 2007 ∨ x.toInt = 2008 ∨ x.toInt = 2009 ∨ x.toInt = 2010 ∨ x.toInt = 2011 ∨ x.toInt = 2012 ∨ x.toInt = 2013 ∨ x.toInt = 2014 := by omega
  rcases h3 with h | h | h | h | h | h | h | h | h | h | h
  · exact Or.inl (Int32.toInt_inj.mp h)
  · exact Or.inr (Or.inl (Int32.toInt_inj.mp h))
  · exact Or.inr (Or.inr (Or.inl (Int32.toInt_inj.mp h)))
  · exact Or.inr (Or.inr (Or.inr (Or.inl (Int32.toInt_inj.mp h))))
  · exact Or.inr (Or.inr (Or.inr (Or.inr (Or.inl (Int32.toInt_inj.mp h)))))
  · exact Or.inr (Or.inr (Or.inr (Or.inr (Or.inr (Or.inl (Int32.toInt_inj.mp h))))))
  · exact Or.inr (Or.inr (Or.inr (Or.inr (Or.inr (Or.inr (Or.inl (Int32.toInt_inj.mp h)))))))
  · exact Or.inr (Or.inr (Or.inr (Or.inr (Or.inr (Or.inr (Or.inr (Or.inl (Int32.toInt_inj.mp h))))))))
  · exact Or.inr (Or.inr (Or.inr (Or.inr (Or.inr (Or.inr (Or.inr (Or.inr (Or.inl (Int32.toInt_inj.mp h)))))))))
  · exact Or.inr (Or.inr (Or.inr (Or.inr (Or.inr (Or.inr (Or.inr (Or.inr (Or.inr (Or.inl (Int32.toInt_inj.mp h))))))))))
  · exact Or.inr (Or.inr (Or.inr (Or.inr (Or.inr (Or.inr (Or.inr (Or.inr (Or.inr (Or.inr (Int32.toInt_inj.mp h))))))))))
theorem own_dflt {x : Int} (h : x < -16 ∨ (16 < x ∧ x < 91) ∨ (93 < x ∧ x < 2004) ∨ 2014 < x) : lookupswitch.offset [((-16), 241), ((-15), 241), ((-9), 241), ((-7), 253), ((-6), 235), ((-5), 235), ((-4), 259), ((-3), 259), ((-2), 259), ((-1), 241), (1, 241), (2, 235), (3, 235), (4, 235), (5, 235), (6, 235), (7, 235), (8, 235), (12, 241), (16, 253), (91, 247), (92, 247), (93, 247), (2004, 259), (2005, 241), (2011, 241), (2013, 247), (2014, 247)] 265 x = 265 := by
  simp only [lookupswitch.offset]
  rw [if_neg (by omega), if_neg (by omega), if_neg (by omega), if_neg (by omega), if_neg (by omega), if_neg (by omega), if_neg (by omega), if_neg (by omega), if_neg (by omega), if_neg (by omega), if_neg (by omega), if_neg (by omega), if_neg (by omega), if_neg (by omega), if_neg (by omega), if_neg (by omega), if_neg (by omega), if_neg (by omega), if_neg (by omega), if_neg (by omega), if_neg (by omega), if_neg (by omega), if_neg (by omega), if_neg (by omega), if_neg (by omega), if_neg (by omega), if_neg (by omega), if_neg (by omega)]
theorem d7_0 : decode jdk_41_method_11_code 0 = .ok (.iload_n 0, 1) := by decide +kernel
theorem d7_1 : decode jdk_41_method_11_code 1 = .ok (.ifCond .lt 8, 3) := by decide +kernel
theorem d7_4 : decode jdk_41_method_11_code 4 = .ok (.iload_n 0, 1) := by decide +kernel
theorem d7_5 : decode jdk_41_method_11_code 5 = .ok (.iload_n 1, 1) := by decide +kernel
theorem d7_6 : decode jdk_41_method_11_code 6 = .ok (.if_icmp .lt 10, 3) := by decide +kernel
theorem d7_16 : decode jdk_41_method_11_code 16 = .ok (.iload_n 0, 1) := by decide +kernel
theorem d7_17 : decode jdk_41_method_11_code 17 = .ok (.ireturn, 1) := by decide +kernel
theorem pn_4 : plainName "jdk/internal/util/Preconditions" = true := by first | (simp [plainName, overriddenIn]; done) | decide +kernel
theorem ef_rm7 (m : MethodId) (y0 : Int32) (y1 : Int32) (y2 : Value) (hy2 : y2.isRef = true) : entryFrame m #[(.int y0), (.int y1), y2] 3 = mkF m 0 #[.val (.int y0), .val (.int y1), .val y2] [] := by rcases ref_cases hy2 with rfl | ⟨_, rfl⟩ <;> first | (simp [entryFrame, mkF, argsToLocals, Value.category]; done) | rfl
def Q7 (Z : State) (y0 : Int32) (y1 : Int32) (y2 : Value) (h0 : Heap) (n0 : Nat) (v : Option Value) (h : Heap) (L : List Loc) : Prop := v = some (.int y0) ∧ Fr n0 L ∧ h = h0
set_option maxRecDepth 65536 in
set_option maxHeartbeats 40000000 in
theorem rm7 (l : Launch) (Z : State) (a0 : Array Value) (hw : ∀ d ∈ tables_1, d.before a0 Z = true) (ws : List Jvm.Cond) (y0 : Int32) (y1 : Int32) (y2 : Value) (h0 : Heap) (n0 : Nat) (Z0 : n0 ≤ h0.size) (hy2 : y2.isRef = true) (hlo : ¬ (y0 < (0 : Int32))) (hhi : y0 < y1) :
    MetFree l mn0 (head1 (Jvm.Cond.code mn0 jdk_41_method_11_code 3 (some .int) :: ws) ({ frames := 0, cells := 0, slots := 0, locals := 0 } : Room)) (fun a U => a = #[(.int y0), (.int y1), y2] ∧ Z.Warmed39 U.vm ∧ U.heap = h0) (fun _ _ _ _ _ => True) (fun _ U o U' => ∃ v L, o = .returned v ∧ Q7 Z y0 y1 y2 h0 n0 v U'.heap L ∧ FrameEnd U o U' L ({ frames := 0, cells := 0, slots := 0, locals := 0 } : Room).cells ({ frames := 0, cells := 0, slots := 0, locals := 0 } : Room).slots) := by
  refine MetFree.of_bodySF (plainFor_of_name pn_4) hisR ?_
  intro p e s m args below meth c s₁ Bd hml0 hP hK
  obtain ⟨rfl, hZ, hh⟩ := hP
  have hx := Bd.exec
  have hby := Bd.bytes
  have hml : c.maxLocals = 3 := hml0
  have hown : s.vm.findClass "jdk/internal/util/Preconditions" = some m.cls := findClass_of_methodNamed Bd.named
  have hnm := (name_of_methodNamed Bd.named Bd.method).1
  have X0 : Stand p l e ({ frames := 0, cells := 0, slots := 0, locals := 0 } : Room) s m #[(.int y0), (.int y1), y2] below meth c s₁ [] 0 0 := Stand.of_body Bd
  have e0 : s₁.heap = h0 := by rw [← hh, Bd.state]; rfl
  have N0 := Fr.nil n0
  show own_Ends p e below s (Q7 Z y0 y1 y2 h0 n0) _ _ s₁ _
  rw [ef_rm7 m y0 y1 y2 hy2]
  refine own_go (T' := s₁) (f' := (mkF m 17 #[.val (.int y0), .val (.int y1), .val y2] [(.int y0)])) (fun _ k => XS.iloadN X0.here hx rfl (hb hby d7_0) rfl (XS.ifNo X0.here hx rfl (hb hby d7_1) rfl ((if0 _ _).trans (flt hlo).1) (XS.iloadN X0.here hx rfl (hb hby d7_4) rfl (XS.iloadN X0.here hx rfl (hb hby d7_5) rfl (XS.icmpYes X0.here hx rfl (pc0 := 6) (pc' := 16) rfl (hb hby d7_6) rfl (tlt hhi).1 (by decide) (by decide) (XS.iloadN X0.here hx rfl (hb hby d7_16) rfl k)))))) ?_
  refine own_ret X0 (v := some (.int y0)) (fun h => by rw [Bd.returns] at h; cases h) Bd.notSynchronized (fun fs hr => retI X0 hx Bd.returns (hb hby d7_17) hr) ?_ (by decide) (by decide)
  show Q7 Z y0 y1 y2 h0 n0 _ s₁.heap _
  exact ⟨rfl, N0, e0⟩
theorem pd5 : parseMethodDescriptor "(IILjava/util/function/BiFunction;)I" = some ⟨[.int, .int, (.object "java/util/function/BiFunction")], some .int⟩ := by decide +kernel
theorem d6_0 : decode jdk_42_method_155_code 0 = .ok (.iload_n 0, 1) := by decide +kernel
theorem d6_1 : decode jdk_42_method_155_code 1 = .ok (.iload_n 1, 1) := by decide +kernel
theorem d6_2 : decode jdk_42_method_155_code 2 = .ok (.getstatic 1053, 3) := by decide +kernel
theorem d6_5 : decode jdk_42_method_155_code 5 = .ok (.invokestatic 1059, 3) := by decide +kernel
theorem d6_8 : decode jdk_42_method_155_code 8 = .ok (.pop, 1) := by decide +kernel
theorem d6_9 : decode jdk_42_method_155_code 9 = .ok (.return_, 1) := by decide +kernel
theorem pn_2 : plainName "java/lang/String" = true := by first | (simp [plainName, overriddenIn]; done) | decide +kernel
theorem ef_rm6 (m : MethodId) (y0 : Int32) (y1 : Int32) : entryFrame m #[(.int y0), (.int y1)] 2 = mkF m 0 #[.val (.int y0), .val (.int y1)] [] := by first | (simp [entryFrame, mkF, argsToLocals, Value.category]; done) | rfl
def Q6 (Z : State) (y0 : Int32) (y1 : Int32) (cs : Int32) (fm : Value) (h0 : Heap) (n0 : Nat) (v : Option Value) (h : Heap) (L : List Loc) : Prop := v = none ∧ Fr n0 L ∧ h = h0
set_option maxRecDepth 65536 in
set_option maxHeartbeats 40000000 in
theorem rm6 (l : Launch) (Z : State) (a0 : Array Value) (hw : ∀ d ∈ tables_1, d.before a0 Z = true) (ws : List Jvm.Cond) (y0 : Int32) (y1 : Int32) (cs : Int32) (fm : Value) (h0 : Heap) (n0 : Nat) (Z0 : n0 ≤ h0.size) (S_cs : Sta Z h0 "java/lang/String" "COMPACT_STRINGS" "Z" (.int cs)) (hcs : ¬ (cs = (0 : Int32))) (S_fm : Sta Z h0 "jdk/internal/util/Preconditions" "SIOOBE_FORMATTER" "Ljava/util/function/BiFunction;" fm) (hfm : fm.isRef = true) (hlo : ¬ (y0 < (0 : Int32))) (hhi : y0 < y1) :
    MetFree l mn1 (head1 (Jvm.Cond.code mn1 jdk_42_method_155_code 2 none :: ws) ({ frames := 1, cells := 0, slots := 0, locals := 14 } : Room)) (fun a U => a = #[(.int y0), (.int y1)] ∧ Z.Warmed39 U.vm ∧ U.heap = h0) (fun _ _ _ _ _ => True) (fun _ U o U' => ∃ v L, o = .returned v ∧ Q6 Z y0 y1 cs fm h0 n0 v U'.heap L ∧ FrameEnd U o U' L ({ frames := 1, cells := 0, slots := 0, locals := 14 } : Room).cells ({ frames := 1, cells := 0, slots := 0, locals := 14 } : Room).slots) := by
  refine MetFree.of_bodySF (plainFor_of_name pn_2) hisR ?_
  intro p e s m args below meth c s₁ Bd hml0 hP hK
  obtain ⟨rfl, hZ, hh⟩ := hP
  have hx := Bd.exec
  have hby := Bd.bytes
  have hml : c.maxLocals = 2 := hml0
  have hown : s.vm.findClass "java/lang/String" = some m.cls := findClass_of_methodNamed Bd.named
  have hnm := (name_of_methodNamed Bd.named Bd.method).1
  have X0 : Stand p l e ({ frames := 1, cells := 0, slots := 0, locals := 14 } : Room) s m #[(.int y0), (.int y1)] below meth c s₁ [] 0 0 := Stand.of_body Bd
  have e0 : s₁.heap = h0 := by rw [← hh, Bd.state]; rfl
  have N0 := Fr.nil n0
  show own_Ends p e below s (Q6 Z y0 y1 cs fm h0 n0) _ _ s₁ _
  rw [ef_rm6 m y0 y1]
  refine own_go (T' := s₁) (f' := (mkF m 2 #[.val (.int y0), .val (.int y1)] [(.int y1), (.int y0)])) (fun _ k => XS.iloadN X0.here hx rfl (hb hby d6_0) rfl (XS.iloadN X0.here hx rfl (hb hby d6_1) rfl k)) ?_
  obtain ⟨T1, X1, e1, st1⟩ := getS2 X0 hx hZ hown (host := "") (Or.inl (ow40 hw)) Via.refl e0 S_fm (g := (mkF m 2 #[.val (.int y0), .val (.int y1)] [(.int y1), (.int y0)])) rfl (hb hby d6_2)
  refine own_go (T' := T1) (f' := (mkF m 5 #[.val (.int y0), .val (.int y1)] [fm, (.int y1), (.int y0)])) (fun _ k => st1 _ k) ?_
  obtain ⟨_, _, ⟨T2, L2, k2, n2⟩, -, X2, ⟨Lc2, hQ2, l2, y2, z2⟩, st2⟩ := Jvm.LawKit.callS X1 hx (y := mn0) hown (mvT hZ (ow42 hw)) (mvT hZ (ow43 hw)) (mvT hZ (ow41 hw)) (mvT hZ (ow44 hw)) (by decide) (backOf (W := 0) (rm7 l Z a0 hw [] y0 y1 fm h0 n0 Z0 hfm hlo hhi) hZ (ow44 hw) (ow41 hw) (by decide) (by decide)) (g := (mkF m 5 #[.val (.int y0), .val (.int y1)] [fm, (.int y1), (.int y0)])) rfl (by rw [hml]; rfl) (argsL := [(.int y0), (.int y1), fm]) (rest := []) (lenOf pd5 rfl) rfl (by show 2 * 0 + _ ≤ _; exact Nat.le_of_eq rfl) (hb hby d6_5) (fun _ _ => ⟨rfl, e1, (by decide : 0 + 0 ≤ _), (by decide : 0 + 0 ≤ _)⟩)
  dsimp only [Pt.U, Pt.locs, Pt.cells, Pt.slots] at X2 l2 y2 z2 st2 hQ2
  subst l2 y2 z2
  obtain ⟨rfl, N2q, hh2⟩ := hQ2
  have N2 := Fr.app N0 N2q
  refine own_go (T' := T2) (f' := (mkF m 9 #[.val (.int y0), .val (.int y1)] [])) (fun _ k => st2 _ (XS.pop X2.here hx rfl (hb hby d6_8) rfl rfl k)) ?_
  refine own_ret X2 (v := none) (fun _ => rfl) Bd.notSynchronized (fun fs hr => X2.returnOut hx Bd.returns (hb hby d6_9) hr) ?_ (by decide) (by decide)
  show Q6 Z y0 y1 cs fm h0 n0 _ T2.heap _
  exact ⟨rfl, N2, hh2⟩
theorem pd4 : parseMethodDescriptor "(II)V" = some ⟨[.int, .int], none⟩ := by decide +kernel
theorem d5_0 : decode jdk_43_method_2_code 0 = .ok (.iload_n 1, 1) := by decide +kernel
theorem d5_1 : decode jdk_43_method_2_code 1 = .ok (.aload_n 0, 1) := by decide +kernel
theorem d5_2 : decode jdk_43_method_2_code 2 = .ok (.arraylength, 1) := by decide +kernel
theorem d5_3 : decode jdk_43_method_2_code 3 = .ok (.invokestatic 9, 3) := by decide +kernel
theorem d5_6 : decode jdk_43_method_2_code 6 = .ok (.aload_n 0, 1) := by decide +kernel
theorem d5_7 : decode jdk_43_method_2_code 7 = .ok (.iload_n 1, 1) := by decide +kernel
theorem d5_8 : decode jdk_43_method_2_code 8 = .ok (.baload, 1) := by decide +kernel
theorem d5_9 : decode jdk_43_method_2_code 9 = .ok (.sipush 255, 3) := by decide +kernel
theorem d5_12 : decode jdk_43_method_2_code 12 = .ok (.iand, 1) := by decide +kernel
theorem d5_13 : decode jdk_43_method_2_code 13 = .ok (.i2c, 1) := by decide +kernel
theorem d5_14 : decode jdk_43_method_2_code 14 = .ok (.ireturn, 1) := by decide +kernel
theorem pn_3 : plainName "java/lang/StringLatin1" = true := by first | (simp [plainName, overriddenIn]; done) | decide +kernel
theorem ef_rm5 (m : MethodId) (y0 : Addr) (y1 : Int32) : entryFrame m #[(.ref y0), (.int y1)] 2 = mkF m 0 #[.val (.ref y0), .val (.int y1)] [] := by first | (simp [entryFrame, mkF, argsToLocals, Value.category]; done) | rfl
def Q5 (Z : State) (y0 : Addr) (y1 : Int32) (cs : Int32) (fm : Value) (kb : ClassId) (nl : Int32) (vs : List Value) (h0 : Heap) (n0 : Nat) (v : Option Value) (h : Heap) (L : List Loc) : Prop := v = some (.int (own_ch vs y1)) ∧ Fr n0 L ∧ h = h0
set_option maxRecDepth 65536 in
set_option maxHeartbeats 40000000 in
theorem rm5 (l : Launch) (Z : State) (a0 : Array Value) (hw : ∀ d ∈ tables_1, d.before a0 Z = true) (ws : List Jvm.Cond) (y0 : Addr) (y1 : Int32) (cs : Int32) (fm : Value) (kb : ClassId) (nl : Int32) (vs : List Value) (h0 : Heap) (n0 : Nat) (Z0 : n0 ≤ h0.size) (S_cs : Sta Z h0 "java/lang/String" "COMPACT_STRINGS" "Z" (.int cs)) (hcs : ¬ (cs = (0 : Int32))) (S_fm : Sta Z h0 "jdk/internal/util/Preconditions" "SIOOBE_FORMATTER" "Ljava/util/function/BiFunction;" fm) (hfm : fm.isRef = true) (V_b : Arv Z h0 y0 kb .byte nl vs (.int (0 : Int32))) (hI : own_Ints vs) (hlo : ¬ (y1 < (0 : Int32))) (hhi : y1 < nl) :
    MetFree l mn2 (head1 (Jvm.Cond.code mn2 jdk_43_method_2_code 2 (some .char) :: ws) ({ frames := 2, cells := 0, slots := 0, locals := 27 } : Room)) (fun a U => a = #[(.ref y0), (.int y1)] ∧ Z.Warmed39 U.vm ∧ U.heap = h0) (fun _ _ _ _ _ => True) (fun _ U o U' => ∃ v L, o = .returned v ∧ Q5 Z y0 y1 cs fm kb nl vs h0 n0 v U'.heap L ∧ FrameEnd U o U' L ({ frames := 2, cells := 0, slots := 0, locals := 27 } : Room).cells ({ frames := 2, cells := 0, slots := 0, locals := 27 } : Room).slots) := by
  refine MetFree.of_bodySF (plainFor_of_name pn_3) hisR ?_
  intro p e s m args below meth c s₁ Bd hml0 hP hK
  obtain ⟨rfl, hZ, hh⟩ := hP
  have hx := Bd.exec
  have hby := Bd.bytes
  have hml : c.maxLocals = 2 := hml0
  have hown : s.vm.findClass "java/lang/StringLatin1" = some m.cls := findClass_of_methodNamed Bd.named
  have hnm := (name_of_methodNamed Bd.named Bd.method).1
  have X0 : Stand p l e ({ frames := 2, cells := 0, slots := 0, locals := 27 } : Room) s m #[(.ref y0), (.int y1)] below meth c s₁ [] 0 0 := Stand.of_body Bd
  have e0 : s₁.heap = h0 := by rw [← hh, Bd.state]; rfl
  have N0 := Fr.nil n0
  show own_Ends p e below s (Q5 Z y0 y1 cs fm kb nl vs h0 n0) _ _ s₁ _
  rw [ef_rm5 m y0 y1]
  refine own_go (T' := s₁) (f' := (mkF m 3 #[.val (.ref y0), .val (.int y1)] [(.int nl), (.int y1)])) (fun _ k => XS.iloadN X0.here hx rfl (hb hby d5_0) rfl (XS.aloadN X0.here hx rfl (hb hby d5_1) rfl rfl (own_alen X0 hx hZ e0 V_b rfl rfl (hb hby d5_2) k))) ?_
  obtain ⟨_, _, ⟨T1, L1, k1, n1⟩, -, X1, ⟨Lc1, hQ1, l1, y1, z1⟩, st1⟩ := Jvm.LawKit.callS X0 hx (y := mn1) hown (mvT hZ (ow37 hw)) (mvT hZ (ow38 hw)) (mvT hZ (ow13 hw)) (mvT hZ (ow39 hw)) (by decide) (backOf (W := 0) (rm6 l Z a0 hw [] y1 nl cs fm h0 n0 Z0 S_cs hcs S_fm hfm hlo hhi) hZ (ow39 hw) (ow13 hw) (by decide) (by decide)) (g := (mkF m 3 #[.val (.ref y0), .val (.int y1)] [(.int nl), (.int y1)])) rfl (by rw [hml]; rfl) (argsL := [(.int y1), (.int nl)]) (rest := []) (lenOf pd4 rfl) rfl (by show 2 * 0 + _ ≤ _; exact Nat.le_of_eq rfl) (hb hby d5_3) (fun _ _ => ⟨rfl, e0, (by decide : 0 + 0 ≤ _), (by decide : 0 + 0 ≤ _)⟩)
  dsimp only [Pt.U, Pt.locs, Pt.cells, Pt.slots] at X1 l1 y1 z1 st1 hQ1
  subst l1 y1 z1
  obtain ⟨rfl, N1q, hh1⟩ := hQ1
  have N1 := Fr.app N0 N1q
  refine own_go (T' := T1) (f' := (mkF m 13 #[.val (.ref y0), .val (.int y1)] [(.int ((own_el vs y1) &&& (255 : Int32)))])) (fun _ k => st1 _ (XS.aloadN X1.here hx rfl (hb hby d5_6) rfl rfl (XS.iloadN X1.here hx rfl (hb hby d5_7) rfl (own_ldB X1 hx hZ hh1 V_b (j := y1) (x := (own_el vs y1)) ⟨hlo, hhi⟩ (own_el_at hI _) rfl rfl (hb hby d5_8) (XS.sipush X1.here hx rfl (hb hby d5_9) (XS.iand X1.here hx rfl (hb hby d5_12) rfl k)))))) ?_
  refine own_go (T' := T1) (f' := (mkF m 14 #[.val (.ref y0), .val (.int y1)] [(.int (((own_el vs y1) &&& (255 : Int32)).toUInt32.toUInt16.toUInt32.toInt32))])) (fun _ k => XS.i2c X1.here hx rfl (hb hby d5_13) rfl k) ?_
  refine own_ret X1 (v := some (.int (nar .char (((own_el vs y1) &&& (255 : Int32)).toUInt32.toUInt16.toUInt32.toInt32)))) (fun h => by rw [Bd.returns] at h; cases h) Bd.notSynchronized (fun fs hr => retN X1 hx (t := .char) Bd.returns (by simp) (hb hby d5_14) hr) ?_ (by decide) (by decide)
  show Q5 Z y0 y1 cs fm kb nl vs h0 n0 _ T1.heap _
  exact ⟨rfl, N1, hh1⟩
theorem d4_0 : decode jdk_42_method_154_code 0 = .ok (.getstatic 38, 3) := by decide +kernel
theorem d4_3 : decode jdk_42_method_154_code 3 = .ok (.ifCond .eq 14, 3) := by decide +kernel
theorem d4_6 : decode jdk_42_method_154_code 6 = .ok (.aload_n 0, 1) := by decide +kernel
theorem d4_7 : decode jdk_42_method_154_code 7 = .ok (.getfield 15, 3) := by decide +kernel
theorem d4_10 : decode jdk_42_method_154_code 10 = .ok (.ifCond .ne 7, 3) := by decide +kernel
theorem d4_13 : decode jdk_42_method_154_code 13 = .ok (.iconst 1, 1) := by decide +kernel
theorem d4_14 : decode jdk_42_method_154_code 14 = .ok (.goto 4, 3) := by decide +kernel
theorem d4_18 : decode jdk_42_method_154_code 18 = .ok (.ireturn, 1) := by decide +kernel
theorem ef_rm4 (m : MethodId) (y0 : Addr) : entryFrame m #[(.ref y0)] 1 = mkF m 0 #[.val (.ref y0)] [] := by first | (simp [entryFrame, mkF, argsToLocals, Value.category]; done) | rfl
def Q4 (Z : State) (y0 : Addr) (cs : Int32) (fm : Value) (h0 : Heap) (n0 : Nat) (v : Option Value) (h : Heap) (L : List Loc) : Prop := v = some (.int (1 : Int32)) ∧ Fr n0 L ∧ h = h0
set_option maxRecDepth 65536 in
set_option maxHeartbeats 40000000 in
theorem rm4 (l : Launch) (Z : State) (a0 : Array Value) (hw : ∀ d ∈ tables_1, d.before a0 Z = true) (ws : List Jvm.Cond) (y0 : Addr) (cs : Int32) (fm : Value) (h0 : Heap) (n0 : Nat) (Z0 : n0 ≤ h0.size) (S_cs : Sta Z h0 "java/lang/String" "COMPACT_STRINGS" "Z" (.int cs)) (hcs : ¬ (cs = (0 : Int32))) (S_fm : Sta Z h0 "jdk/internal/util/Preconditions" "SIOOBE_FORMATTER" "Ljava/util/function/BiFunction;" fm) (hfm : fm.isRef = true) (F_c : Fld Z h0 y0 "java/lang/String" "coder" "B" (.int (0 : Int32))) :
    MetFree l mn3 (head1 (Jvm.Cond.code mn3 jdk_42_method_154_code 1 (some .boolean) :: ws) ({ frames := 0, cells := 0, slots := 0, locals := 0 } : Room)) (fun a U => a = #[(.ref y0)] ∧ Z.Warmed39 U.vm ∧ U.heap = h0) (fun _ _ _ _ _ => True) (fun _ U o U' => ∃ v L, o = .returned v ∧ Q4 Z y0 cs fm h0 n0 v U'.heap L ∧ FrameEnd U o U' L ({ frames := 0, cells := 0, slots := 0, locals := 0 } : Room).cells ({ frames := 0, cells := 0, slots := 0, locals := 0 } : Room).slots) := by
  refine MetFree.of_bodySF (plainFor_of_name pn_2) hisR ?_
  intro p e s m args below meth c s₁ Bd hml0 hP hK
  obtain ⟨rfl, hZ, hh⟩ := hP
  have hx := Bd.exec
  have hby := Bd.bytes
  have hml : c.maxLocals = 1 := hml0
  have hown : s.vm.findClass "java/lang/String" = some m.cls := findClass_of_methodNamed Bd.named
  have hnm := (name_of_methodNamed Bd.named Bd.method).1
  have X0 : Stand p l e ({ frames := 0, cells := 0, slots := 0, locals := 0 } : Room) s m #[(.ref y0)] below meth c s₁ [] 0 0 := Stand.of_body Bd
  have e0 : s₁.heap = h0 := by rw [← hh, Bd.state]; rfl
  have N0 := Fr.nil n0
  show own_Ends p e below s (Q4 Z y0 cs fm h0 n0) _ _ s₁ _
  rw [ef_rm4 m y0]
  obtain ⟨T1, X1, e1, st1⟩ := getS2 X0 hx hZ hown (host := "") (Or.inl (ow30 hw)) Via.refl e0 S_cs (g := (mkF m 0 #[.val (.ref y0)] [])) rfl (hb hby d4_0)
  refine own_go (T' := T1) (f' := (mkF m 7 #[.val (.ref y0)] [(.ref y0)])) (fun _ k => st1 _ (XS.ifNo X1.here hx rfl (hb hby d4_3) rfl ((if0 _ _).trans (feq hcs).1) (XS.aloadN X1.here hx rfl (hb hby d4_6) rfl rfl k))) ?_
  obtain ⟨T2, X2, e2, st2⟩ := getF X1 hx hZ hown (host := "") (Or.inl (ow31 hw)) Via.refl e1 F_c (g := (mkF m 7 #[.val (.ref y0)] [(.ref y0)])) rfl rfl (hb hby d4_7)
  refine own_go (T' := T2) (f' := (mkF m 18 #[.val (.ref y0)] [(.int (1 : Int32))])) (fun _ k => st2 _ (XS.ifNo X2.here hx rfl (hb hby d4_10) rfl ((if0 _ _).trans (teq (by decide : ((0 : Int32) = (0 : Int32)))).2) (XS.iconst X2.here hx rfl (hb hby d4_13) (XS.goto X2.here hx rfl (pc0 := 14) (pc' := 18) rfl (hb hby d4_14) (by decide) (by decide) k)))) ?_
  refine own_ret X2 (v := some (.int (1 : Int32))) (fun h => by rw [Bd.returns] at h; cases h) Bd.notSynchronized (fun fs hr => retN X2 hx (t := .boolean) Bd.returns (by simp) (hb hby d4_18) hr) ?_ (by decide) (by decide)
  show Q4 Z y0 cs fm h0 n0 _ T2.heap _
  exact ⟨rfl, N0, e2⟩
theorem pd0 : parseMethodDescriptor "()Z" = some ⟨[], some .boolean⟩ := by decide +kernel
theorem pd6 : parseMethodDescriptor "([BI)C" = some ⟨[(.array .byte), .int], some .char⟩ := by decide +kernel
theorem d3_0 : decode jdk_42_method_56_code 0 = .ok (.aload_n 0, 1) := by decide +kernel
theorem d3_1 : decode jdk_42_method_56_code 1 = .ok (.invokevirtual 492, 3) := by decide +kernel
theorem d3_4 : decode jdk_42_method_56_code 4 = .ok (.ifCond .eq 12, 3) := by decide +kernel
theorem d3_7 : decode jdk_42_method_56_code 7 = .ok (.aload_n 0, 1) := by decide +kernel
theorem d3_8 : decode jdk_42_method_56_code 8 = .ok (.getfield 9, 3) := by decide +kernel
theorem d3_11 : decode jdk_42_method_56_code 11 = .ok (.iload_n 1, 1) := by decide +kernel
theorem d3_12 : decode jdk_42_method_56_code 12 = .ok (.invokestatic 495, 3) := by decide +kernel
theorem d3_15 : decode jdk_42_method_56_code 15 = .ok (.ireturn, 1) := by decide +kernel
theorem ef_rm3 (m : MethodId) (y0 : Addr) (y1 : Int32) : entryFrame m #[(.ref y0), (.int y1)] 2 = mkF m 0 #[.val (.ref y0), .val (.int y1)] [] := by first | (simp [entryFrame, mkF, argsToLocals, Value.category]; done) | rfl
def Q3 (Z : State) (y0 : Addr) (y1 : Int32) (cs : Int32) (fm : Value) (b : Addr) (kb : ClassId) (nl : Int32) (vs : List Value) (h0 : Heap) (n0 : Nat) (v : Option Value) (h : Heap) (L : List Loc) : Prop := v = some (.int (nar .char (own_ch vs y1))) ∧ Fr n0 L ∧ h = h0
set_option maxRecDepth 65536 in
set_option maxHeartbeats 40000000 in
theorem rm3 (l : Launch) (Z : State) (a0 : Array Value) (hw : ∀ d ∈ tables_1, d.before a0 Z = true) (ws : List Jvm.Cond) (y0 : Addr) (y1 : Int32) (cs : Int32) (fm : Value) (b : Addr) (kb : ClassId) (nl : Int32) (vs : List Value) (h0 : Heap) (n0 : Nat) (Z0 : n0 ≤ h0.size) (S_cs : Sta Z h0 "java/lang/String" "COMPACT_STRINGS" "Z" (.int cs)) (hcs : ¬ (cs = (0 : Int32))) (S_fm : Sta Z h0 "jdk/internal/util/Preconditions" "SIOOBE_FORMATTER" "Ljava/util/function/BiFunction;" fm) (hfm : fm.isRef = true) (E_s : Exa Z h0 y0 "java/lang/String") (F_c : Fld Z h0 y0 "java/lang/String" "coder" "B" (.int (0 : Int32))) (F_v : Fld Z h0 y0 "java/lang/String" "value" "[B" (.ref b)) (V_b : Arv Z h0 b kb .byte nl vs (.int (0 : Int32))) (hI : own_Ints vs) (hlo : ¬ (y1 < (0 : Int32))) (hhi : y1 < nl) :
    MetFree l mn4 (head1 (Jvm.Cond.code mn4 jdk_42_method_56_code 2 (some .char) :: ws) ({ frames := 3, cells := 0, slots := 0, locals := 40 } : Room)) (fun a U => a = #[(.ref y0), (.int y1)] ∧ Z.Warmed39 U.vm ∧ U.heap = h0) (fun _ _ _ _ _ => True) (fun _ U o U' => ∃ v L, o = .returned v ∧ Q3 Z y0 y1 cs fm b kb nl vs h0 n0 v U'.heap L ∧ FrameEnd U o U' L ({ frames := 3, cells := 0, slots := 0, locals := 40 } : Room).cells ({ frames := 3, cells := 0, slots := 0, locals := 40 } : Room).slots) := by
  refine MetFree.of_bodySF (plainFor_of_name pn_2) hisR ?_
  intro p e s m args below meth c s₁ Bd hml0 hP hK
  obtain ⟨rfl, hZ, hh⟩ := hP
  have hx := Bd.exec
  have hby := Bd.bytes
  have hml : c.maxLocals = 2 := hml0
  have hown : s.vm.findClass "java/lang/String" = some m.cls := findClass_of_methodNamed Bd.named
  have hnm := (name_of_methodNamed Bd.named Bd.method).1
  have X0 : Stand p l e ({ frames := 3, cells := 0, slots := 0, locals := 40 } : Room) s m #[(.ref y0), (.int y1)] below meth c s₁ [] 0 0 := Stand.of_body Bd
  have e0 : s₁.heap = h0 := by rw [← hh, Bd.state]; rfl
  have N0 := Fr.nil n0
  show own_Ends p e below s (Q3 Z y0 y1 cs fm b kb nl vs h0 n0) _ _ s₁ _
  rw [ef_rm3 m y0 y1]
  refine own_go (T' := s₁) (f' := (mkF m 1 #[.val (.ref y0), .val (.int y1)] [(.ref y0)])) (fun _ k => XS.aloadN X0.here hx rfl (hb hby d3_0) rfl rfl k) ?_
  obtain ⟨cq1, kq1, q1a, q1b, q1c⟩ := isOf hZ e0 E_s
  obtain ⟨_, _, ⟨T1, L1, k1, n1⟩, -, X1, ⟨Lc1, hQ1, l1, y1, z1⟩, st1⟩ := X0.virtualBack hx (y := mn3) (z := mn3) hown (mvT hZ (ow25 hw)) (mvT hZ (ow26 hw)) (notFace_of_selects (args := #[]) (mvT hZ (ow28 hw))) (mvT hZ (ow28 hw)) (mvT hZ (ow27 hw)) (by decide) (backOf (W := 0) (rm4 l Z a0 hw [] y0 cs fm h0 n0 Z0 S_cs hcs S_fm hfm F_c) hZ (ow29 hw) (ow13 hw) (by decide) (by decide)) q1a q1c (g := (mkF m 1 #[.val (.ref y0), .val (.int y1)] [(.ref y0)])) rfl (by rw [hml]; rfl) (Steps.refl _) (argsL := []) (rest := []) (lenOf pd0 rfl) rfl (by show 2 * 0 + _ ≤ _; exact Nat.le_of_eq rfl) (hb hby d3_1) (fun _ _ => ⟨rfl, e0, (by decide : 0 + 0 ≤ _), (by decide : 0 + 0 ≤ _)⟩)
  dsimp only [Pt.U, Pt.locs, Pt.cells, Pt.slots] at X1 l1 y1 z1 st1 hQ1
  subst l1 y1 z1
  obtain ⟨rfl, N1q, hh1⟩ := hQ1
  have N1 := Fr.app N0 N1q
  refine own_go (T' := T1) (f' := (mkF m 8 #[.val (.ref y0), .val (.int y1)] [(.ref y0)])) (fun _ k => st1.trans (XS.ifNo X1.here hx rfl (hb hby d3_4) rfl ((if0 _ _).trans (feq (by decide : ¬ ((1 : Int32) = (0 : Int32)))).1) (XS.aloadN X1.here hx rfl (hb hby d3_7) rfl rfl k))) ?_
  obtain ⟨T2, X2, e2, st2⟩ := getF X1 hx hZ hown (host := "") (Or.inl (ow32 hw)) Via.refl hh1 F_v (g := (mkF m 8 #[.val (.ref y0), .val (.int y1)] [(.ref y0)])) rfl rfl (hb hby d3_8)
  refine own_go (T' := T2) (f' := (mkF m 12 #[.val (.ref y0), .val (.int y1)] [(.int y1), (.ref b)])) (fun _ k => st2 _ (XS.iloadN X2.here hx rfl (hb hby d3_11) rfl k)) ?_
  obtain ⟨_, _, ⟨T3, L3, k3, n3⟩, -, X3, ⟨Lc3, hQ3, l3, y3, z3⟩, st3⟩ := Jvm.LawKit.callS X2 hx (y := mn2) hown (mvT hZ (ow33 hw)) (mvT hZ (ow34 hw)) (mvT hZ (ow35 hw)) (mvT hZ (ow36 hw)) (by decide) (backOf (W := 0) (rm5 l Z a0 hw [] b y1 cs fm kb nl vs h0 n0 Z0 S_cs hcs S_fm hfm V_b hI hlo hhi) hZ (ow36 hw) (ow35 hw) (by decide) (by decide)) (g := (mkF m 12 #[.val (.ref y0), .val (.int y1)] [(.int y1), (.ref b)])) rfl (by rw [hml]; rfl) (argsL := [(.ref b), (.int y1)]) (rest := []) (lenOf pd6 rfl) rfl (by show 2 * 0 + _ ≤ _; exact Nat.le_of_eq rfl) (hb hby d3_12) (fun _ _ => ⟨rfl, e2, (by decide : 0 + 0 ≤ _), (by decide : 0 + 0 ≤ _)⟩)
  dsimp only [Pt.U, Pt.locs, Pt.cells, Pt.slots] at X3 l3 y3 z3 st3 hQ3
  subst l3 y3 z3
  obtain ⟨rfl, N3q, hh3⟩ := hQ3
  have N3 := Fr.app N1 N3q
  refine own_go (T' := T3) (f' := (mkF m 15 #[.val (.ref y0), .val (.int y1)] [(.int (own_ch vs y1))])) (fun _ k => st3 _ k) ?_
  refine own_ret X3 (v := some (.int (nar .char (own_ch vs y1)))) (fun h => by rw [Bd.returns] at h; cases h) Bd.notSynchronized (fun fs hr => retN X3 hx (t := .char) Bd.returns (by simp) (hb hby d3_15) hr) ?_ (by decide) (by decide)
  show Q3 Z y0 y1 cs fm b kb nl vs h0 n0 _ T3.heap _
  exact ⟨rfl, N3, hh3⟩
theorem d1_0 : decode prog_4_method_4_code 0 = .ok (.iload_n 0, 1) := by decide +kernel
theorem d1_1 : decode prog_4_method_4_code 1 = .ok (.lookupswitch 265 #[((-16), 241), ((-15), 241), ((-9), 241), ((-7), 253), ((-6), 235), ((-5), 235), ((-4), 259), ((-3), 259), ((-2), 259), ((-1), 241), (1, 241), (2, 235), (3, 235), (4, 235), (5, 235), (6, 235), (7, 235), (8, 235), (12, 241), (16, 253), (91, 247), (92, 247), (93, 247), (2004, 259), (2005, 241), (2011, 241), (2013, 247), (2014, 247)], 235) := by decide +kernel
theorem d1_236 : decode prog_4_method_4_code 236 = .ok (.getstatic 3, 3) := by decide +kernel
theorem d1_239 : decode prog_4_method_4_code 239 = .ok (.goto 30, 3) := by decide +kernel
theorem d1_269 : decode prog_4_method_4_code 269 = .ok (.areturn, 1) := by decide +kernel
theorem pn_0 : plainName "com/example/tuple/tuple/model/Kind" = true := by first | (simp [plainName, overriddenIn]; done) | decide +kernel
theorem ef_rm1N (m : MethodId) (y0 : Int32) : entryFrame m #[(.int y0)] 1 = mkF m 0 #[.val (.int y0)] [] := by first | (simp [entryFrame, mkF, argsToLocals, Value.category]; done) | rfl
def Q1N (Z : State) (y0 : Int32) (wN : Addr) (wT : Addr) (wM : Addr) (wB : Addr) (wY : Addr) (wO : Addr) (h0 : Heap) (n0 : Nat) (v : Option Value) (h : Heap) (L : List Loc) : Prop := v = some (.ref wN) ∧ Fr n0 L ∧ h = h0
set_option maxRecDepth 65536 in
set_option maxHeartbeats 40000000 in
theorem rm1N (l : Launch) (Z : State) (a0 : Array Value) (hw : ∀ d ∈ tables_1, d.before a0 Z = true) (ws : List Jvm.Cond) (y0 : Int32) (wN : Addr) (wT : Addr) (wM : Addr) (wB : Addr) (wY : Addr) (wO : Addr) (h0 : Heap) (n0 : Nat) (Z0 : n0 ≤ h0.size) (S_N : Sta Z h0 "com/example/tuple/tuple/model/Kind" "NUMBER" "Lcom/example/tuple/tuple/model/Kind;" (.ref wN)) (S_T : Sta Z h0 "com/example/tuple/tuple/model/Kind" "TEXT" "Lcom/example/tuple/tuple/model/Kind;" (.ref wT)) (S_M : Sta Z h0 "com/example/tuple/tuple/model/Kind" "TEMPORAL" "Lcom/example/tuple/tuple/model/Kind;" (.ref wM)) (S_B : Sta Z h0 "com/example/tuple/tuple/model/Kind" "BOOLEAN" "Lcom/example/tuple/tuple/model/Kind;" (.ref wB)) (S_Y : Sta Z h0 "com/example/tuple/tuple/model/Kind" "BINARY" "Lcom/example/tuple/tuple/model/Kind;" (.ref wY)) (S_O : Sta Z h0 "com/example/tuple/tuple/model/Kind" "OTHER" "Lcom/example/tuple/tuple/model/Kind;" (.ref wO)) (ho : lookupswitch.offset [((-16), 241), ((-15), 241), ((-9), 241), ((-7), 253), ((-6), 235), ((-5), 235), ((-4), 259), ((-3), 259), ((-2), 259), ((-1), 241), (1, 241), (2, 235), (3, 235), (4, 235), (5, 235), (6, 235), (7, 235), (8, 235), (12, 241), (16, 253), (91, 247), (92, 247), (93, 247), (2004, 259), (2005, 241), (2011, 241), (2013, 247), (2014, 247)] 265 y0.toInt = 235) :
    MetFree l mn5 (head1 (Jvm.Cond.code mn5 prog_4_method_4_code 1 (some (.object "com/example/tuple/tuple/model/Kind")) :: ws) ({ frames := 0, cells := 0, slots := 0, locals := 0 } : Room)) (fun a U => a = #[(.int y0)] ∧ Z.Warmed39 U.vm ∧ U.heap = h0) (fun _ _ _ _ _ => True) (fun _ U o U' => ∃ v L, o = .returned v ∧ Q1N Z y0 wN wT wM wB wY wO h0 n0 v U'.heap L ∧ FrameEnd U o U' L ({ frames := 0, cells := 0, slots := 0, locals := 0 } : Room).cells ({ frames := 0, cells := 0, slots := 0, locals := 0 } : Room).slots) := by
  refine MetFree.of_bodySF (plainFor_of_name pn_0) hisR ?_
  intro p e s m args below meth c s₁ Bd hml0 hP hK
  obtain ⟨rfl, hZ, hh⟩ := hP
  have hx := Bd.exec
  have hby := Bd.bytes
  have hml : c.maxLocals = 1 := hml0
  have hown : s.vm.findClass "com/example/tuple/tuple/model/Kind" = some m.cls := findClass_of_methodNamed Bd.named
  have hnm := (name_of_methodNamed Bd.named Bd.method).1
  have X0 : Stand p l e ({ frames := 0, cells := 0, slots := 0, locals := 0 } : Room) s m #[(.int y0)] below meth c s₁ [] 0 0 := Stand.of_body Bd
  have e0 : s₁.heap = h0 := by rw [← hh, Bd.state]; rfl
  have N0 := Fr.nil n0
  show own_Ends p e below s (Q1N Z y0 wN wT wM wB wY wO h0 n0) _ _ s₁ _
  rw [ef_rm1N m y0]
  refine own_go (T' := s₁) (f' := (mkF m 236 #[.val (.int y0)] [])) (fun _ k => XS.iloadN X0.here hx rfl (hb hby d1_0) rfl (own_lsw X0.here hx rfl (o := 235) (pc0 := 1) (pc' := 236) rfl (hb hby d1_1) rfl ho (by decide) (by decide) (by decide) k)) ?_
  obtain ⟨T1, X1, e1, st1⟩ := getS2 X0 hx hZ hown (host := "") (Or.inl (ow50 hw)) Via.refl e0 S_N (g := (mkF m 236 #[.val (.int y0)] [])) rfl (hb hby d1_236)
  refine own_go (T' := T1) (f' := (mkF m 269 #[.val (.int y0)] [(.ref wN)])) (fun _ k => st1 _ (XS.goto X1.here hx rfl (pc0 := 239) (pc' := 269) rfl (hb hby d1_239) (by decide) (by decide) k)) ?_
  refine own_ret X1 (v := some (.ref wN)) (fun h => by rw [Bd.returns] at h; cases h) Bd.notSynchronized (fun fs hr => own_retA X1 hx Bd.returns rfl rfl (hb hby d1_269) hr) ?_ (by decide) (by decide)
  show Q1N Z y0 wN wT wM wB wY wO h0 n0 _ T1.heap _
  exact ⟨rfl, N0, e1⟩
theorem d1_242 : decode prog_4_method_4_code 242 = .ok (.getstatic 7, 3) := by decide +kernel
theorem d1_245 : decode prog_4_method_4_code 245 = .ok (.goto 24, 3) := by decide +kernel
theorem ef_rm1T (m : MethodId) (y0 : Int32) : entryFrame m #[(.int y0)] 1 = mkF m 0 #[.val (.int y0)] [] := by first | (simp [entryFrame, mkF, argsToLocals, Value.category]; done) | rfl
def Q1T (Z : State) (y0 : Int32) (wN : Addr) (wT : Addr) (wM : Addr) (wB : Addr) (wY : Addr) (wO : Addr) (h0 : Heap) (n0 : Nat) (v : Option Value) (h : Heap) (L : List Loc) : Prop := v = some (.ref wT) ∧ Fr n0 L ∧ h = h0
set_option maxRecDepth 65536 in
set_option maxHeartbeats 40000000 in
theorem rm1T (l : Launch) (Z : State) (a0 : Array Value) (hw : ∀ d ∈ tables_1, d.before a0 Z = true) (ws : List Jvm.Cond) (y0 : Int32) (wN : Addr) (wT : Addr) (wM : Addr) (wB : Addr) (wY : Addr) (wO : Addr) (h0 : Heap) (n0 : Nat) (Z0 : n0 ≤ h0.size) (S_N : Sta Z h0 "com/example/tuple/tuple/model/Kind" "NUMBER" "Lcom/example/tuple/tuple/model/Kind;" (.ref wN)) (S_T : Sta Z h0 "com/example/tuple/tuple/model/Kind" "TEXT" "Lcom/example/tuple/tuple/model/Kind;" (.ref wT)) (S_M : Sta Z h0 "com/example/tuple/tuple/model/Kind" "TEMPORAL" "Lcom/example/tuple/tuple/model/Kind;" (.ref wM)) (S_B : Sta Z h0 "com/example/tuple/tuple/model/Kind" "BOOLEAN" "Lcom/example/tuple/tuple/model/Kind;" (.ref wB)) (S_Y : Sta Z h0 "com/example/tuple/tuple/model/Kind" "BINARY" "Lcom/example/tuple/tuple/model/Kind;" (.ref wY)) (S_O : Sta Z h0 "com/example/tuple/tuple/model/Kind" "OTHER" "Lcom/example/tuple/tuple/model/Kind;" (.ref wO)) (ho : lookupswitch.offset [((-16), 241), ((-15), 241), ((-9), 241), ((-7), 253), ((-6), 235), ((-5), 235), ((-4), 259), ((-3), 259), ((-2), 259), ((-1), 241), (1, 241), (2, 235), (3, 235), (4, 235), (5, 235), (6, 235), (7, 235), (8, 235), (12, 241), (16, 253), (91, 247), (92, 247), (93, 247), (2004, 259), (2005, 241), (2011, 241), (2013, 247), (2014, 247)] 265 y0.toInt = 241) :
    MetFree l mn5 (head1 (Jvm.Cond.code mn5 prog_4_method_4_code 1 (some (.object "com/example/tuple/tuple/model/Kind")) :: ws) ({ frames := 0, cells := 0, slots := 0, locals := 0 } : Room)) (fun a U => a = #[(.int y0)] ∧ Z.Warmed39 U.vm ∧ U.heap = h0) (fun _ _ _ _ _ => True) (fun _ U o U' => ∃ v L, o = .returned v ∧ Q1T Z y0 wN wT wM wB wY wO h0 n0 v U'.heap L ∧ FrameEnd U o U' L ({ frames := 0, cells := 0, slots := 0, locals := 0 } : Room).cells ({ frames := 0, cells := 0, slots := 0, locals := 0 } : Room).slots) := by
  refine MetFree.of_bodySF (plainFor_of_name pn_0) hisR ?_
  intro p e s m args below meth c s₁ Bd hml0 hP hK
  obtain ⟨rfl, hZ, hh⟩ := hP
  have hx := Bd.exec
  have hby := Bd.bytes
  have hml : c.maxLocals = 1 := hml0
  have hown : s.vm.findClass "com/example/tuple/tuple/model/Kind" = some m.cls := findClass_of_methodNamed Bd.named
  have hnm := (name_of_methodNamed Bd.named Bd.method).1
  have X0 : Stand p l e ({ frames := 0, cells := 0, slots := 0, locals := 0 } : Room) s m #[(.int y0)] below meth c s₁ [] 0 0 := Stand.of_body Bd
  have e0 : s₁.heap = h0 := by rw [← hh, Bd.state]; rfl
  have N0 := Fr.nil n0
  show own_Ends p e below s (Q1T Z y0 wN wT wM wB wY wO h0 n0) _ _ s₁ _
  rw [ef_rm1T m y0]
  refine own_go (T' := s₁) (f' := (mkF m 242 #[.val (.int y0)] [])) (fun _ k => XS.iloadN X0.here hx rfl (hb hby d1_0) rfl (own_lsw X0.here hx rfl (o := 241) (pc0 := 1) (pc' := 242) rfl (hb hby d1_1) rfl ho (by decide) (by decide) (by decide) k)) ?_
  obtain ⟨T1, X1, e1, st1⟩ := getS2 X0 hx hZ hown (host := "") (Or.inl (ow56 hw)) Via.refl e0 S_T (g := (mkF m 242 #[.val (.int y0)] [])) rfl (hb hby d1_242)
  refine own_go (T' := T1) (f' := (mkF m 269 #[.val (.int y0)] [(.ref wT)])) (fun _ k => st1 _ (XS.goto X1.here hx rfl (pc0 := 245) (pc' := 269) rfl (hb hby d1_245) (by decide) (by decide) k)) ?_
  refine own_ret X1 (v := some (.ref wT)) (fun h => by rw [Bd.returns] at h; cases h) Bd.notSynchronized (fun fs hr => own_retA X1 hx Bd.returns rfl rfl (hb hby d1_269) hr) ?_ (by decide) (by decide)
  show Q1T Z y0 wN wT wM wB wY wO h0 n0 _ T1.heap _
  exact ⟨rfl, N0, e1⟩
theorem d1_248 : decode prog_4_method_4_code 248 = .ok (.getstatic 10, 3) := by decide +kernel
theorem d1_251 : decode prog_4_method_4_code 251 = .ok (.goto 18, 3) := by decide +kernel
theorem ef_rm1M (m : MethodId) (y0 : Int32) : entryFrame m #[(.int y0)] 1 = mkF m 0 #[.val (.int y0)] [] := by first | (simp [entryFrame, mkF, argsToLocals, Value.category]; done) | rfl
def Q1M (Z : State) (y0 : Int32) (wN : Addr) (wT : Addr) (wM : Addr) (wB : Addr) (wY : Addr) (wO : Addr) (h0 : Heap) (n0 : Nat) (v : Option Value) (h : Heap) (L : List Loc) : Prop := v = some (.ref wM) ∧ Fr n0 L ∧ h = h0
set_option maxRecDepth 65536 in
set_option maxHeartbeats 40000000 in
theorem rm1M (l : Launch) (Z : State) (a0 : Array Value) (hw : ∀ d ∈ tables_1, d.before a0 Z = true) (ws : List Jvm.Cond) (y0 : Int32) (wN : Addr) (wT : Addr) (wM : Addr) (wB : Addr) (wY : Addr) (wO : Addr) (h0 : Heap) (n0 : Nat) (Z0 : n0 ≤ h0.size) (S_N : Sta Z h0 "com/example/tuple/tuple/model/Kind" "NUMBER" "Lcom/example/tuple/tuple/model/Kind;" (.ref wN)) (S_T : Sta Z h0 "com/example/tuple/tuple/model/Kind" "TEXT" "Lcom/example/tuple/tuple/model/Kind;" (.ref wT)) (S_M : Sta Z h0 "com/example/tuple/tuple/model/Kind" "TEMPORAL" "Lcom/example/tuple/tuple/model/Kind;" (.ref wM)) (S_B : Sta Z h0 "com/example/tuple/tuple/model/Kind" "BOOLEAN" "Lcom/example/tuple/tuple/model/Kind;" (.ref wB)) (S_Y : Sta Z h0 "com/example/tuple/tuple/model/Kind" "BINARY" "Lcom/example/tuple/tuple/model/Kind;" (.ref wY)) (S_O : Sta Z h0 "com/example/tuple/tuple/model/Kind" "OTHER" "Lcom/example/tuple/tuple/model/Kind;" (.ref wO)) (ho : lookupswitch.offset [((-16), 241), ((-15), 241), ((-9), 241), ((-7), 253), ((-6), 235), ((-5), 235), ((-4), 259), ((-3), 259), ((-2), 259), ((-1), 241), (1, 241), (2, 235), (3, 235), (4, 235), (5, 235), (6, 235), (7, 235), (8, 235), (12, 241), (16, 253), (91, 247), (92, 247), (93, 247), (2004, 259), (2005, 241), (2011, 241), (2013, 247), (2014, 247)] 265 y0.toInt = 247) :
    MetFree l mn5 (head1 (Jvm.Cond.code mn5 prog_4_method_4_code 1 (some (.object "com/example/tuple/tuple/model/Kind")) :: ws) ({ frames := 0, cells := 0, slots := 0, locals := 0 } : Room)) (fun a U => a = #[(.int y0)] ∧ Z.Warmed39 U.vm ∧ U.heap = h0) (fun _ _ _ _ _ => True) (fun _ U o U' => ∃ v L, o = .returned v ∧ Q1M Z y0 wN wT wM wB wY wO h0 n0 v U'.heap L ∧ FrameEnd U o U' L ({ frames := 0, cells := 0, slots := 0, locals := 0 } : Room).cells ({ frames := 0, cells := 0, slots := 0, locals := 0 } : Room).slots) := by
  refine MetFree.of_bodySF (plainFor_of_name pn_0) hisR ?_
  intro p e s m args below meth c s₁ Bd hml0 hP hK
  obtain ⟨rfl, hZ, hh⟩ := hP
  have hx := Bd.exec
  have hby := Bd.bytes
  have hml : c.maxLocals = 1 := hml0
  have hown : s.vm.findClass "com/example/tuple/tuple/model/Kind" = some m.cls := findClass_of_methodNamed Bd.named
  have hnm := (name_of_methodNamed Bd.named Bd.method).1
  have X0 : Stand p l e ({ frames := 0, cells := 0, slots := 0, locals := 0 } : Room) s m #[(.int y0)] below meth c s₁ [] 0 0 := Stand.of_body Bd
  have e0 : s₁.heap = h0 := by rw [← hh, Bd.state]; rfl
  have N0 := Fr.nil n0
  show own_Ends p e below s (Q1M Z y0 wN wT wM wB wY wO h0 n0) _ _ s₁ _
  rw [ef_rm1M m y0]
  refine own_go (T' := s₁) (f' := (mkF m 248 #[.val (.int y0)] [])) (fun _ k => XS.iloadN X0.here hx rfl (hb hby d1_0) rfl (own_lsw X0.here hx rfl (o := 247) (pc0 := 1) (pc' := 248) rfl (hb hby d1_1) rfl ho (by decide) (by decide) (by decide) k)) ?_
  obtain ⟨T1, X1, e1, st1⟩ := getS2 X0 hx hZ hown (host := "") (Or.inl (ow53 hw)) Via.refl e0 S_M (g := (mkF m 248 #[.val (.int y0)] [])) rfl (hb hby d1_248)
  refine own_go (T' := T1) (f' := (mkF m 269 #[.val (.int y0)] [(.ref wM)])) (fun _ k => st1 _ (XS.goto X1.here hx rfl (pc0 := 251) (pc' := 269) rfl (hb hby d1_251) (by decide) (by decide) k)) ?_
  refine own_ret X1 (v := some (.ref wM)) (fun h => by rw [Bd.returns] at h; cases h) Bd.notSynchronized (fun fs hr => own_retA X1 hx Bd.returns rfl rfl (hb hby d1_269) hr) ?_ (by decide) (by decide)
  show Q1M Z y0 wN wT wM wB wY wO h0 n0 _ T1.heap _
  exact ⟨rfl, N0, e1⟩
theorem d1_254 : decode prog_4_method_4_code 254 = .ok (.getstatic 13, 3) := by decide +kernel
theorem d1_257 : decode prog_4_method_4_code 257 = .ok (.goto 12, 3) := by decide +kernel
theorem ef_rm1B (m : MethodId) (y0 : Int32) : entryFrame m #[(.int y0)] 1 = mkF m 0 #[.val (.int y0)] [] := by first | (simp [entryFrame, mkF, argsToLocals, Value.category]; done) | rfl
def Q1B (Z : State) (y0 : Int32) (wN : Addr) (wT : Addr) (wM : Addr) (wB : Addr) (wY : Addr) (wO : Addr) (h0 : Heap) (n0 : Nat) (v : Option Value) (h : Heap) (L : List Loc) : Prop := v = some (.ref wB) ∧ Fr n0 L ∧ h = h0
set_option maxRecDepth 65536 in
set_option maxHeartbeats 40000000 in
theorem rm1B (l : Launch) (Z : State) (a0 : Array Value) (hw : ∀ d ∈ tables_1, d.before a0 Z = true) (ws : List Jvm.Cond) (y0 : Int32) (wN : Addr) (wT : Addr) (wM : Addr) (wB : Addr) (wY : Addr) (wO : Addr) (h0 : Heap) (n0 : Nat) (Z0 : n0 ≤ h0.size) (S_N : Sta Z h0 "com/example/tuple/tuple/model/Kind" "NUMBER" "Lcom/example/tuple/tuple/model/Kind;" (.ref wN)) (S_T : Sta Z h0 "com/example/tuple/tuple/model/Kind" "TEXT" "Lcom/example/tuple/tuple/model/Kind;" (.ref wT)) (S_M : Sta Z h0 "com/example/tuple/tuple/model/Kind" "TEMPORAL" "Lcom/example/tuple/tuple/model/Kind;" (.ref wM)) (S_B : Sta Z h0 "com/example/tuple/tuple/model/Kind" "BOOLEAN" "Lcom/example/tuple/tuple/model/Kind;" (.ref wB)) (S_Y : Sta Z h0 "com/example/tuple/tuple/model/Kind" "BINARY" "Lcom/example/tuple/tuple/model/Kind;" (.ref wY)) (S_O : Sta Z h0 "com/example/tuple/tuple/model/Kind" "OTHER" "Lcom/example/tuple/tuple/model/Kind;" (.ref wO)) (ho : lookupswitch.offset [((-16), 241), ((-15), 241), ((-9), 241), ((-7), 253), ((-6), 235), ((-5), 235), ((-4), 259), ((-3), 259), ((-2), 259), ((-1), 241), (1, 241), (2, 235), (3, 235), (4, 235), (5, 235), (6, 235), (7, 235), (8, 235), (12, 241), (16, 253), (91, 247), (92, 247), (93, 247), (2004, 259), (2005, 241), (2011, 241), (2013, 247), (2014, 247)] 265 y0.toInt = 253) :
    MetFree l mn5 (head1 (Jvm.Cond.code mn5 prog_4_method_4_code 1 (some (.object "com/example/tuple/tuple/model/Kind")) :: ws) ({ frames := 0, cells := 0, slots := 0, locals := 0 } : Room)) (fun a U => a = #[(.int y0)] ∧ Z.Warmed39 U.vm ∧ U.heap = h0) (fun _ _ _ _ _ => True) (fun _ U o U' => ∃ v L, o = .returned v ∧ Q1B Z y0 wN wT wM wB wY wO h0 n0 v U'.heap L ∧ FrameEnd U o U' L ({ frames := 0, cells := 0, slots := 0, locals := 0 } : Room).cells ({ frames := 0, cells := 0, slots := 0, locals := 0 } : Room).slots) := by
  refine MetFree.of_bodySF (plainFor_of_name pn_0) hisR ?_
  intro p e s m args below meth c s₁ Bd hml0 hP hK
  obtain ⟨rfl, hZ, hh⟩ := hP
  have hx := Bd.exec
  have hby := Bd.bytes
  have hml : c.maxLocals = 1 := hml0
  have hown : s.vm.findClass "com/example/tuple/tuple/model/Kind" = some m.cls := findClass_of_methodNamed Bd.named
  have hnm := (name_of_methodNamed Bd.named Bd.method).1
  have X0 : Stand p l e ({ frames := 0, cells := 0, slots := 0, locals := 0 } : Room) s m #[(.int y0)] below meth c s₁ [] 0 0 := Stand.of_body Bd
  have e0 : s₁.heap = h0 := by rw [← hh, Bd.state]; rfl
  have N0 := Fr.nil n0
  show own_Ends p e below s (Q1B Z y0 wN wT wM wB wY wO h0 n0) _ _ s₁ _
  rw [ef_rm1B m y0]
  refine own_go (T' := s₁) (f' := (mkF m 254 #[.val (.int y0)] [])) (fun _ k => XS.iloadN X0.here hx rfl (hb hby d1_0) rfl (own_lsw X0.here hx rfl (o := 253) (pc0 := 1) (pc' := 254) rfl (hb hby d1_1) rfl ho (by decide) (by decide) (by decide) k)) ?_
  obtain ⟨T1, X1, e1, st1⟩ := getS2 X0 hx hZ hown (host := "") (Or.inl (ow66 hw)) Via.refl e0 S_B (g := (mkF m 254 #[.val (.int y0)] [])) rfl (hb hby d1_254)
  refine own_go (T' := T1) (f' := (mkF m 269 #[.val (.int y0)] [(.ref wB)])) (fun _ k => st1 _ (XS.goto X1.here hx rfl (pc0 := 257) (pc' := 269) rfl (hb hby d1_257) (by decide) (by decide) k)) ?_
  refine own_ret X1 (v := some (.ref wB)) (fun h => by rw [Bd.returns] at h; cases h) Bd.notSynchronized (fun fs hr => own_retA X1 hx Bd.returns rfl rfl (hb hby d1_269) hr) ?_ (by decide) (by decide)
  show Q1B Z y0 wN wT wM wB wY wO h0 n0 _ T1.heap _
  exact ⟨rfl, N0, e1⟩
theorem d1_260 : decode prog_4_method_4_code 260 = .ok (.getstatic 16, 3) := by decide +kernel
theorem d1_263 : decode prog_4_method_4_code 263 = .ok (.goto 6, 3) := by decide +kernel
theorem ef_rm1Y (m : MethodId) (y0 : Int32) : entryFrame m #[(.int y0)] 1 = mkF m 0 #[.val (.int y0)] [] := by first | (simp [entryFrame, mkF, argsToLocals, Value.category]; done) | rfl
def Q1Y (Z : State) (y0 : Int32) (wN : Addr) (wT : Addr) (wM : Addr) (wB : Addr) (wY : Addr) (wO : Addr) (h0 : Heap) (n0 : Nat) (v : Option Value) (h : Heap) (L : List Loc) : Prop := v = some (.ref wY) ∧ Fr n0 L ∧ h = h0
set_option maxRecDepth 65536 in
set_option maxHeartbeats 40000000 in
theorem rm1Y (l : Launch) (Z : State) (a0 : Array Value) (hw : ∀ d ∈ tables_1, d.before a0 Z = true) (ws : List Jvm.Cond) (y0 : Int32) (wN : Addr) (wT : Addr) (wM : Addr) (wB : Addr) (wY : Addr) (wO : Addr) (h0 : Heap) (n0 : Nat) (Z0 : n0 ≤ h0.size) (S_N : Sta Z h0 "com/example/tuple/tuple/model/Kind" "NUMBER" "Lcom/example/tuple/tuple/model/Kind;" (.ref wN)) (S_T : Sta Z h0 "com/example/tuple/tuple/model/Kind" "TEXT" "Lcom/example/tuple/tuple/model/Kind;" (.ref wT)) (S_M : Sta Z h0 "com/example/tuple/tuple/model/Kind" "TEMPORAL" "Lcom/example/tuple/tuple/model/Kind;" (.ref wM)) (S_B : Sta Z h0 "com/example/tuple/tuple/model/Kind" "BOOLEAN" "Lcom/example/tuple/tuple/model/Kind;" (.ref wB)) (S_Y : Sta Z h0 "com/example/tuple/tuple/model/Kind" "BINARY" "Lcom/example/tuple/tuple/model/Kind;" (.ref wY)) (S_O : Sta Z h0 "com/example/tuple/tuple/model/Kind" "OTHER" "Lcom/example/tuple/tuple/model/Kind;" (.ref wO)) (ho : lookupswitch.offset [((-16), 241), ((-15), 241), ((-9), 241), ((-7), 253), ((-6), 235), ((-5), 235), ((-4), 259), ((-3), 259), ((-2), 259), ((-1), 241), (1, 241), (2, 235), (3, 235), (4, 235), (5, 235), (6, 235), (7, 235), (8, 235), (12, 241), (16, 253), (91, 247), (92, 247), (93, 247), (2004, 259), (2005, 241), (2011, 241), (2013, 247), (2014, 247)] 265 y0.toInt = 259) :
    MetFree l mn5 (head1 (Jvm.Cond.code mn5 prog_4_method_4_code 1 (some (.object "com/example/tuple/tuple/model/Kind")) :: ws) ({ frames := 0, cells := 0, slots := 0, locals := 0 } : Room)) (fun a U => a = #[(.int y0)] ∧ Z.Warmed39 U.vm ∧ U.heap = h0) (fun _ _ _ _ _ => True) (fun _ U o U' => ∃ v L, o = .returned v ∧ Q1Y Z y0 wN wT wM wB wY wO h0 n0 v U'.heap L ∧ FrameEnd U o U' L ({ frames := 0, cells := 0, slots := 0, locals := 0 } : Room).cells ({ frames := 0, cells := 0, slots := 0, locals := 0 } : Room).slots) := by
  refine MetFree.of_bodySF (plainFor_of_name pn_0) hisR ?_
  intro p e s m args below meth c s₁ Bd hml0 hP hK
  obtain ⟨rfl, hZ, hh⟩ := hP
  have hx := Bd.exec
  have hby := Bd.bytes
  have hml : c.maxLocals = 1 := hml0
  have hown : s.vm.findClass "com/example/tuple/tuple/model/Kind" = some m.cls := findClass_of_methodNamed Bd.named
  have hnm := (name_of_methodNamed Bd.named Bd.method).1
  have X0 : Stand p l e ({ frames := 0, cells := 0, slots := 0, locals := 0 } : Room) s m #[(.int y0)] below meth c s₁ [] 0 0 := Stand.of_body Bd
  have e0 : s₁.heap = h0 := by rw [← hh, Bd.state]; rfl
  have N0 := Fr.nil n0
  show own_Ends p e below s (Q1Y Z y0 wN wT wM wB wY wO h0 n0) _ _ s₁ _
  rw [ef_rm1Y m y0]
  refine own_go (T' := s₁) (f' := (mkF m 260 #[.val (.int y0)] [])) (fun _ k => XS.iloadN X0.here hx rfl (hb hby d1_0) rfl (own_lsw X0.here hx rfl (o := 259) (pc0 := 1) (pc' := 260) rfl (hb hby d1_1) rfl ho (by decide) (by decide) (by decide) k)) ?_
  obtain ⟨T1, X1, e1, st1⟩ := getS2 X0 hx hZ hown (host := "") (Or.inl (ow63 hw)) Via.refl e0 S_Y (g := (mkF m 260 #[.val (.int y0)] [])) rfl (hb hby d1_260)
  refine own_go (T' := T1) (f' := (mkF m 269 #[.val (.int y0)] [(.ref wY)])) (fun _ k => st1 _ (XS.goto X1.here hx rfl (pc0 := 263) (pc' := 269) rfl (hb hby d1_263) (by decide) (by decide) k)) ?_
  refine own_ret X1 (v := some (.ref wY)) (fun h => by rw [Bd.returns] at h; cases h) Bd.notSynchronized (fun fs hr => own_retA X1 hx Bd.returns rfl rfl (hb hby d1_269) hr) ?_ (by decide) (by decide)
  show Q1Y Z y0 wN wT wM wB wY wO h0 n0 _ T1.heap _
  exact ⟨rfl, N0, e1⟩
theorem d1_266 : decode prog_4_method_4_code 266 = .ok (.getstatic 19, 3) := by decide +kernel
theorem ef_rm1O (m : MethodId) (y0 : Int32) : entryFrame m #[(.int y0)] 1 = mkF m 0 #[.val (.int y0)] [] := by first | (simp [entryFrame, mkF, argsToLocals, Value.category]; done) | rfl
def Q1O (Z : State) (y0 : Int32) (wN : Addr) (wT : Addr) (wM : Addr) (wB : Addr) (wY : Addr) (wO : Addr) (h0 : Heap) (n0 : Nat) (v : Option Value) (h : Heap) (L : List Loc) : Prop := v = some (.ref wO) ∧ Fr n0 L ∧ h = h0
set_option maxRecDepth 65536 in
set_option maxHeartbeats 40000000 in
theorem rm1O (l : Launch) (Z : State) (a0 : Array Value) (hw : ∀ d ∈ tables_1, d.before a0 Z = true) (ws : List Jvm.Cond) (y0 : Int32) (wN : Addr) (wT : Addr) (wM : Addr) (wB : Addr) (wY : Addr) (wO : Addr) (h0 : Heap) (n0 : Nat) (Z0 : n0 ≤ h0.size) (S_N : Sta Z h0 "com/example/tuple/tuple/model/Kind" "NUMBER" "Lcom/example/tuple/tuple/model/Kind;" (.ref wN)) (S_T : Sta Z h0 "com/example/tuple/tuple/model/Kind" "TEXT" "Lcom/example/tuple/tuple/model/Kind;" (.ref wT)) (S_M : Sta Z h0 "com/example/tuple/tuple/model/Kind" "TEMPORAL" "Lcom/example/tuple/tuple/model/Kind;" (.ref wM)) (S_B : Sta Z h0 "com/example/tuple/tuple/model/Kind" "BOOLEAN" "Lcom/example/tuple/tuple/model/Kind;" (.ref wB)) (S_Y : Sta Z h0 "com/example/tuple/tuple/model/Kind" "BINARY" "Lcom/example/tuple/tuple/model/Kind;" (.ref wY)) (S_O : Sta Z h0 "com/example/tuple/tuple/model/Kind" "OTHER" "Lcom/example/tuple/tuple/model/Kind;" (.ref wO)) (ho : lookupswitch.offset [((-16), 241), ((-15), 241), ((-9), 241), ((-7), 253), ((-6), 235), ((-5), 235), ((-4), 259), ((-3), 259), ((-2), 259), ((-1), 241), (1, 241), (2, 235), (3, 235), (4, 235), (5, 235), (6, 235), (7, 235), (8, 235), (12, 241), (16, 253), (91, 247), (92, 247), (93, 247), (2004, 259), (2005, 241), (2011, 241), (2013, 247), (2014, 247)] 265 y0.toInt = 265) :
    MetFree l mn5 (head1 (Jvm.Cond.code mn5 prog_4_method_4_code 1 (some (.object "com/example/tuple/tuple/model/Kind")) :: ws) ({ frames := 0, cells := 0, slots := 0, locals := 0 } : Room)) (fun a U => a = #[(.int y0)] ∧ Z.Warmed39 U.vm ∧ U.heap = h0) (fun _ _ _ _ _ => True) (fun _ U o U' => ∃ v L, o = .returned v ∧ Q1O Z y0 wN wT wM wB wY wO h0 n0 v U'.heap L ∧ FrameEnd U o U' L ({ frames := 0, cells := 0, slots := 0, locals := 0 } : Room).cells ({ frames := 0, cells := 0, slots := 0, locals := 0 } : Room).slots) := by
  refine MetFree.of_bodySF (plainFor_of_name pn_0) hisR ?_
  intro p e s m args below meth c s₁ Bd hml0 hP hK
  obtain ⟨rfl, hZ, hh⟩ := hP
  have hx := Bd.exec
  have hby := Bd.bytes
  have hml : c.maxLocals = 1 := hml0
  have hown : s.vm.findClass "com/example/tuple/tuple/model/Kind" = some m.cls := findClass_of_methodNamed Bd.named
  have hnm := (name_of_methodNamed Bd.named Bd.method).1
  have X0 : Stand p l e ({ frames := 0, cells := 0, slots := 0, locals := 0 } : Room) s m #[(.int y0)] below meth c s₁ [] 0 0 := Stand.of_body Bd
  have e0 : s₁.heap = h0 := by rw [← hh, Bd.state]; rfl
  have N0 := Fr.nil n0
  show own_Ends p e below s (Q1O Z y0 wN wT wM wB wY wO h0 n0) _ _ s₁ _
  rw [ef_rm1O m y0]
  refine own_go (T' := s₁) (f' := (mkF m 266 #[.val (.int y0)] [])) (fun _ k => XS.iloadN X0.here hx rfl (hb hby d1_0) rfl (own_lsw X0.here hx rfl (o := 265) (pc0 := 1) (pc' := 266) rfl (hb hby d1_1) rfl ho (by decide) (by decide) (by decide) k)) ?_
  obtain ⟨T1, X1, e1, st1⟩ := getS2 X0 hx hZ hown (host := "") (Or.inl (ow7 hw)) Via.refl e0 S_O (g := (mkF m 266 #[.val (.int y0)] [])) rfl (hb hby d1_266)
  refine own_go (T' := T1) (f' := (mkF m 269 #[.val (.int y0)] [(.ref wO)])) (fun _ k => st1 _ k) ?_
  refine own_ret X1 (v := some (.ref wO)) (fun h => by rw [Bd.returns] at h; cases h) Bd.notSynchronized (fun fs hr => own_retA X1 hx Bd.returns rfl rfl (hb hby d1_269) hr) ?_ (by decide) (by decide)
  show Q1O Z y0 wN wT wM wB wY wO h0 n0 _ T1.heap _
  exact ⟨rfl, N0, e1⟩
theorem d8_0 : decode method_4_code 0 = .ok (.getstatic 23, 3) := by decide +kernel
theorem d8_3 : decode method_4_code 3 = .ok (.astore_n 1, 1) := by decide +kernel
theorem d8_4 : decode method_4_code 4 = .ok (.iload_n 0, 1) := by decide +kernel
theorem d8_5 : decode method_4_code 5 = .ok (.bipush 78, 2) := by decide +kernel
theorem d8_7 : decode method_4_code 7 = .ok (.if_icmp .ne 10, 3) := by decide +kernel
theorem d8_10 : decode method_4_code 10 = .ok (.getstatic 29, 3) := by decide +kernel
theorem d8_13 : decode method_4_code 13 = .ok (.astore_n 1, 1) := by decide +kernel
theorem d8_14 : decode method_4_code 14 = .ok (.goto 52, 3) := by decide +kernel
theorem d8_66 : decode method_4_code 66 = .ok (.aload_n 1, 1) := by decide +kernel
theorem d8_67 : decode method_4_code 67 = .ok (.areturn, 1) := by decide +kernel
theorem pn_1 : plainName "com/example/tuple/tuple/model/KindOfSqlTypePinLaw" = true := by first | (simp [plainName, overriddenIn]; done) | decide +kernel
theorem ef_rm8N (m : MethodId) (y0 : Int32) : entryFrame m #[(.int y0)] 2 = mkF m 0 #[.val (.int y0), .unset] [] := by first | (simp [entryFrame, mkF, argsToLocals, Value.category]; done) | rfl
def Q8N (Z : State) (y0 : Int32) (wN : Addr) (wT : Addr) (wM : Addr) (wB : Addr) (wY : Addr) (wO : Addr) (h0 : Heap) (n0 : Nat) (v : Option Value) (h : Heap) (L : List Loc) : Prop := v = some (.ref wN) ∧ Fr n0 L ∧ h = h0
set_option maxRecDepth 65536 in
set_option maxHeartbeats 40000000 in
theorem rm8N (l : Launch) (Z : State) (a0 : Array Value) (hw : ∀ d ∈ tables_1, d.before a0 Z = true) (ws : List Jvm.Cond) (y0 : Int32) (wN : Addr) (wT : Addr) (wM : Addr) (wB : Addr) (wY : Addr) (wO : Addr) (h0 : Heap) (n0 : Nat) (Z0 : n0 ≤ h0.size) (S_N : Sta Z h0 "com/example/tuple/tuple/model/Kind" "NUMBER" "Lcom/example/tuple/tuple/model/Kind;" (.ref wN)) (S_T : Sta Z h0 "com/example/tuple/tuple/model/Kind" "TEXT" "Lcom/example/tuple/tuple/model/Kind;" (.ref wT)) (S_M : Sta Z h0 "com/example/tuple/tuple/model/Kind" "TEMPORAL" "Lcom/example/tuple/tuple/model/Kind;" (.ref wM)) (S_B : Sta Z h0 "com/example/tuple/tuple/model/Kind" "BOOLEAN" "Lcom/example/tuple/tuple/model/Kind;" (.ref wB)) (S_Y : Sta Z h0 "com/example/tuple/tuple/model/Kind" "BINARY" "Lcom/example/tuple/tuple/model/Kind;" (.ref wY)) (S_O : Sta Z h0 "com/example/tuple/tuple/model/Kind" "OTHER" "Lcom/example/tuple/tuple/model/Kind;" (.ref wO)) (hch : y0 = (78 : Int32)) :
    MetFree l mn6 (head1 (Jvm.Cond.code mn6 method_4_code 2 (some (.object "com/example/tuple/tuple/model/Kind")) :: ws) ({ frames := 0, cells := 0, slots := 0, locals := 0 } : Room)) (fun a U => a = #[(.int y0)] ∧ Z.Warmed39 U.vm ∧ U.heap = h0) (fun _ _ _ _ _ => True) (fun _ U o U' => ∃ v L, o = .returned v ∧ Q8N Z y0 wN wT wM wB wY wO h0 n0 v U'.heap L ∧ FrameEnd U o U' L ({ frames := 0, cells := 0, slots := 0, locals := 0 } : Room).cells ({ frames := 0, cells := 0, slots := 0, locals := 0 } : Room).slots) := by
  refine MetFree.of_bodySF (plainFor_of_name pn_1) hisR ?_
  intro p e s m args below meth c s₁ Bd hml0 hP hK
  obtain ⟨rfl, hZ, hh⟩ := hP
  have hx := Bd.exec
  have hby := Bd.bytes
  have hml : c.maxLocals = 2 := hml0
  have hown : s.vm.findClass "com/example/tuple/tuple/model/KindOfSqlTypePinLaw" = some m.cls := findClass_of_methodNamed Bd.named
  have hnm := (name_of_methodNamed Bd.named Bd.method).1
  have X0 : Stand p l e ({ frames := 0, cells := 0, slots := 0, locals := 0 } : Room) s m #[(.int y0)] below meth c s₁ [] 0 0 := Stand.of_body Bd
  have e0 : s₁.heap = h0 := by rw [← hh, Bd.state]; rfl
  have N0 := Fr.nil n0
  show own_Ends p e below s (Q8N Z y0 wN wT wM wB wY wO h0 n0) _ _ s₁ _
  rw [ef_rm8N m y0]
  obtain ⟨T1, X1, e1, st1⟩ := getS2 X0 hx hZ hown (host := "") (Or.inl (ow1 hw)) Via.refl e0 S_O (g := (mkF m 0 #[.val (.int y0), .unset] [])) rfl (hb hby d8_0)
  refine own_go (T' := T1) (f' := (mkF m 10 #[.val (.int y0), .val (.ref wO)] [])) (fun _ k => st1 _ (XS.astoreN X1.here hx rfl (hb hby d8_3) rfl rfl (l' := #[.val (.int y0), .val (.ref wO)]) rfl (XS.iloadN X1.here hx rfl (hb hby d8_4) rfl (XS.bipush X1.here hx rfl (hb hby d8_5) (XS.icmpNo X1.here hx rfl (hb hby d8_7) rfl (teq hch).2 k))))) ?_
  obtain ⟨T2, X2, e2, st2⟩ := getS2 X1 hx hZ hown (host := "") (Or.inl (ow48 hw)) Via.refl e1 S_N (g := (mkF m 10 #[.val (.int y0), .val (.ref wO)] [])) rfl (hb hby d8_10)
  refine own_go (T' := T2) (f' := (mkF m 67 #[.val (.int y0), .val (.ref wN)] [(.ref wN)])) (fun _ k => st2 _ (XS.astoreN X2.here hx rfl (hb hby d8_13) rfl rfl (l' := #[.val (.int y0), .val (.ref wN)]) rfl (XS.goto X2.here hx rfl (pc0 := 14) (pc' := 66) rfl (hb hby d8_14) (by decide) (by decide) (XS.aloadN X2.here hx rfl (hb hby d8_66) rfl rfl k)))) ?_
  refine own_ret X2 (v := some (.ref wN)) (fun h => by rw [Bd.returns] at h; cases h) Bd.notSynchronized (fun fs hr => own_retA X2 hx Bd.returns rfl rfl (hb hby d8_67) hr) ?_ (by decide) (by decide)
  show Q8N Z y0 wN wT wM wB wY wO h0 n0 _ T2.heap _
  exact ⟨rfl, N0, e2⟩
theorem d8_17 : decode method_4_code 17 = .ok (.iload_n 0, 1) := by decide +kernel
theorem d8_18 : decode method_4_code 18 = .ok (.bipush 84, 2) := by decide +kernel
theorem d8_20 : decode method_4_code 20 = .ok (.if_icmp .ne 10, 3) := by decide +kernel
theorem d8_23 : decode method_4_code 23 = .ok (.getstatic 32, 3) := by decide +kernel
theorem d8_26 : decode method_4_code 26 = .ok (.astore_n 1, 1) := by decide +kernel
theorem d8_27 : decode method_4_code 27 = .ok (.goto 39, 3) := by decide +kernel
theorem ef_rm8T (m : MethodId) (y0 : Int32) : entryFrame m #[(.int y0)] 2 = mkF m 0 #[.val (.int y0), .unset] [] := by first | (simp [entryFrame, mkF, argsToLocals, Value.category]; done) | rfl
def Q8T (Z : State) (y0 : Int32) (wN : Addr) (wT : Addr) (wM : Addr) (wB : Addr) (wY : Addr) (wO : Addr) (h0 : Heap) (n0 : Nat) (v : Option Value) (h : Heap) (L : List Loc) : Prop := v = some (.ref wT) ∧ Fr n0 L ∧ h = h0
set_option maxRecDepth 65536 in
set_option maxHeartbeats 40000000 in
theorem rm8T (l : Launch) (Z : State) (a0 : Array Value) (hw : ∀ d ∈ tables_1, d.before a0 Z = true) (ws : List Jvm.Cond) (y0 : Int32) (wN : Addr) (wT : Addr) (wM : Addr) (wB : Addr) (wY : Addr) (wO : Addr) (h0 : Heap) (n0 : Nat) (Z0 : n0 ≤ h0.size) (S_N : Sta Z h0 "com/example/tuple/tuple/model/Kind" "NUMBER" "Lcom/example/tuple/tuple/model/Kind;" (.ref wN)) (S_T : Sta Z h0 "com/example/tuple/tuple/model/Kind" "TEXT" "Lcom/example/tuple/tuple/model/Kind;" (.ref wT)) (S_M : Sta Z h0 "com/example/tuple/tuple/model/Kind" "TEMPORAL" "Lcom/example/tuple/tuple/model/Kind;" (.ref wM)) (S_B : Sta Z h0 "com/example/tuple/tuple/model/Kind" "BOOLEAN" "Lcom/example/tuple/tuple/model/Kind;" (.ref wB)) (S_Y : Sta Z h0 "com/example/tuple/tuple/model/Kind" "BINARY" "Lcom/example/tuple/tuple/model/Kind;" (.ref wY)) (S_O : Sta Z h0 "com/example/tuple/tuple/model/Kind" "OTHER" "Lcom/example/tuple/tuple/model/Kind;" (.ref wO)) (hch : y0 = (84 : Int32)) :
    MetFree l mn6 (head1 (Jvm.Cond.code mn6 method_4_code 2 (some (.object "com/example/tuple/tuple/model/Kind")) :: ws) ({ frames := 0, cells := 0, slots := 0, locals := 0 } : Room)) (fun a U => a = #[(.int y0)] ∧ Z.Warmed39 U.vm ∧ U.heap = h0) (fun _ _ _ _ _ => True) (fun _ U o U' => ∃ v L, o = .returned v ∧ Q8T Z y0 wN wT wM wB wY wO h0 n0 v U'.heap L ∧ FrameEnd U o U' L ({ frames := 0, cells := 0, slots := 0, locals := 0 } : Room).cells ({ frames := 0, cells := 0, slots := 0, locals := 0 } : Room).slots) := by
  refine MetFree.of_bodySF (plainFor_of_name pn_1) hisR ?_
  intro p e s m args below meth c s₁ Bd hml0 hP hK
  obtain ⟨rfl, hZ, hh⟩ := hP
  have hx := Bd.exec
  have hby := Bd.bytes
  have hml : c.maxLocals = 2 := hml0
  have hown : s.vm.findClass "com/example/tuple/tuple/model/KindOfSqlTypePinLaw" = some m.cls := findClass_of_methodNamed Bd.named
  have hnm := (name_of_methodNamed Bd.named Bd.method).1
  have X0 : Stand p l e ({ frames := 0, cells := 0, slots := 0, locals := 0 } : Room) s m #[(.int y0)] below meth c s₁ [] 0 0 := Stand.of_body Bd
  have e0 : s₁.heap = h0 := by rw [← hh, Bd.state]; rfl
  have N0 := Fr.nil n0
  show own_Ends p e below s (Q8T Z y0 wN wT wM wB wY wO h0 n0) _ _ s₁ _
  rw [ef_rm8T m y0]
  obtain ⟨T1, X1, e1, st1⟩ := getS2 X0 hx hZ hown (host := "") (Or.inl (ow1 hw)) Via.refl e0 S_O (g := (mkF m 0 #[.val (.int y0), .unset] [])) rfl (hb hby d8_0)
  refine own_go (T' := T1) (f' := (mkF m 18 #[.val (.int y0), .val (.ref wO)] [(.int y0)])) (fun _ k => st1 _ (XS.astoreN X1.here hx rfl (hb hby d8_3) rfl rfl (l' := #[.val (.int y0), .val (.ref wO)]) rfl (XS.iloadN X1.here hx rfl (hb hby d8_4) rfl (XS.bipush X1.here hx rfl (hb hby d8_5) (XS.icmpYes X1.here hx rfl (pc0 := 7) (pc' := 17) rfl (hb hby d8_7) rfl (feq (by rw [hch]; decide : ¬ (y0 = (78 : Int32)))).2 (by decide) (by decide) (XS.iloadN X1.here hx rfl (hb hby d8_17) rfl k)))))) ?_
  refine own_go (T' := T1) (f' := (mkF m 23 #[.val (.int y0), .val (.ref wO)] [])) (fun _ k => XS.bipush X1.here hx rfl (hb hby d8_18) (XS.icmpNo X1.here hx rfl (hb hby d8_20) rfl (teq hch).2 k)) ?_
  obtain ⟨T2, X2, e2, st2⟩ := getS2 X1 hx hZ hown (host := "") (Or.inl (ow54 hw)) Via.refl e1 S_T (g := (mkF m 23 #[.val (.int y0), .val (.ref wO)] [])) rfl (hb hby d8_23)
  refine own_go (T' := T2) (f' := (mkF m 67 #[.val (.int y0), .val (.ref wT)] [(.ref wT)])) (fun _ k => st2 _ (XS.astoreN X2.here hx rfl (hb hby d8_26) rfl rfl (l' := #[.val (.int y0), .val (.ref wT)]) rfl (XS.goto X2.here hx rfl (pc0 := 27) (pc' := 66) rfl (hb hby d8_27) (by decide) (by decide) (XS.aloadN X2.here hx rfl (hb hby d8_66) rfl rfl k)))) ?_
  refine own_ret X2 (v := some (.ref wT)) (fun h => by rw [Bd.returns] at h; cases h) Bd.notSynchronized (fun fs hr => own_retA X2 hx Bd.returns rfl rfl (hb hby d8_67) hr) ?_ (by decide) (by decide)
  show Q8T Z y0 wN wT wM wB wY wO h0 n0 _ T2.heap _
  exact ⟨rfl, N0, e2⟩
theorem d8_30 : decode method_4_code 30 = .ok (.iload_n 0, 1) := by decide +kernel
theorem d8_31 : decode method_4_code 31 = .ok (.bipush 77, 2) := by decide +kernel
theorem d8_33 : decode method_4_code 33 = .ok (.if_icmp .ne 10, 3) := by decide +kernel
theorem d8_36 : decode method_4_code 36 = .ok (.getstatic 35, 3) := by decide +kernel
theorem d8_39 : decode method_4_code 39 = .ok (.astore_n 1, 1) := by decide +kernel
theorem d8_40 : decode method_4_code 40 = .ok (.goto 26, 3) := by decide +kernel
theorem ef_rm8M (m : MethodId) (y0 : Int32) : entryFrame m #[(.int y0)] 2 = mkF m 0 #[.val (.int y0), .unset] [] := by first | (simp [entryFrame, mkF, argsToLocals, Value.category]; done) | rfl
def Q8M (Z : State) (y0 : Int32) (wN : Addr) (wT : Addr) (wM : Addr) (wB : Addr) (wY : Addr) (wO : Addr) (h0 : Heap) (n0 : Nat) (v : Option Value) (h : Heap) (L : List Loc) : Prop := v = some (.ref wM) ∧ Fr n0 L ∧ h = h0
set_option maxRecDepth 65536 in
set_option maxHeartbeats 40000000 in
theorem rm8M (l : Launch) (Z : State) (a0 : Array Value) (hw : ∀ d ∈ tables_1, d.before a0 Z = true) (ws : List Jvm.Cond) (y0 : Int32) (wN : Addr) (wT : Addr) (wM : Addr) (wB : Addr) (wY : Addr) (wO : Addr) (h0 : Heap) (n0 : Nat) (Z0 : n0 ≤ h0.size) (S_N : Sta Z h0 "com/example/tuple/tuple/model/Kind" "NUMBER" "Lcom/example/tuple/tuple/model/Kind;" (.ref wN)) (S_T : Sta Z h0 "com/example/tuple/tuple/model/Kind" "TEXT" "Lcom/example/tuple/tuple/model/Kind;" (.ref wT)) (S_M : Sta Z h0 "com/example/tuple/tuple/model/Kind" "TEMPORAL" "Lcom/example/tuple/tuple/model/Kind;" (.ref wM)) (S_B : Sta Z h0 "com/example/tuple/tuple/model/Kind" "BOOLEAN" "Lcom/example/tuple/tuple/model/Kind;" (.ref wB)) (S_Y : Sta Z h0 "com/example/tuple/tuple/model/Kind" "BINARY" "Lcom/example/tuple/tuple/model/Kind;" (.ref wY)) (S_O : Sta Z h0 "com/example/tuple/tuple/model/Kind" "OTHER" "Lcom/example/tuple/tuple/model/Kind;" (.ref wO)) (hch : y0 = (77 : Int32)) :
    MetFree l mn6 (head1 (Jvm.Cond.code mn6 method_4_code 2 (some (.object "com/example/tuple/tuple/model/Kind")) :: ws) ({ frames := 0, cells := 0, slots := 0, locals := 0 } : Room)) (fun a U => a = #[(.int y0)] ∧ Z.Warmed39 U.vm ∧ U.heap = h0) (fun _ _ _ _ _ => True) (fun _ U o U' => ∃ v L, o = .returned v ∧ Q8M Z y0 wN wT wM wB wY wO h0 n0 v U'.heap L ∧ FrameEnd U o U' L ({ frames := 0, cells := 0, slots := 0, locals := 0 } : Room).cells ({ frames := 0, cells := 0, slots := 0, locals := 0 } : Room).slots) := by
  refine MetFree.of_bodySF (plainFor_of_name pn_1) hisR ?_
  intro p e s m args below meth c s₁ Bd hml0 hP hK
  obtain ⟨rfl, hZ, hh⟩ := hP
  have hx := Bd.exec
  have hby := Bd.bytes
  have hml : c.maxLocals = 2 := hml0
  have hown : s.vm.findClass "com/example/tuple/tuple/model/KindOfSqlTypePinLaw" = some m.cls := findClass_of_methodNamed Bd.named
  have hnm := (name_of_methodNamed Bd.named Bd.method).1
  have X0 : Stand p l e ({ frames := 0, cells := 0, slots := 0, locals := 0 } : Room) s m #[(.int y0)] below meth c s₁ [] 0 0 := Stand.of_body Bd
  have e0 : s₁.heap = h0 := by rw [← hh, Bd.state]; rfl
  have N0 := Fr.nil n0
  show own_Ends p e below s (Q8M Z y0 wN wT wM wB wY wO h0 n0) _ _ s₁ _
  rw [ef_rm8M m y0]
  obtain ⟨T1, X1, e1, st1⟩ := getS2 X0 hx hZ hown (host := "") (Or.inl (ow1 hw)) Via.refl e0 S_O (g := (mkF m 0 #[.val (.int y0), .unset] [])) rfl (hb hby d8_0)
  refine own_go (T' := T1) (f' := (mkF m 18 #[.val (.int y0), .val (.ref wO)] [(.int y0)])) (fun _ k => st1 _ (XS.astoreN X1.here hx rfl (hb hby d8_3) rfl rfl (l' := #[.val (.int y0), .val (.ref wO)]) rfl (XS.iloadN X1.here hx rfl (hb hby d8_4) rfl (XS.bipush X1.here hx rfl (hb hby d8_5) (XS.icmpYes X1.here hx rfl (pc0 := 7) (pc' := 17) rfl (hb hby d8_7) rfl (feq (by rw [hch]; decide : ¬ (y0 = (78 : Int32)))).2 (by decide) (by decide) (XS.iloadN X1.here hx rfl (hb hby d8_17) rfl k)))))) ?_
  refine own_go (T' := T1) (f' := (mkF m 36 #[.val (.int y0), .val (.ref wO)] [])) (fun _ k => XS.bipush X1.here hx rfl (hb hby d8_18) (XS.icmpYes X1.here hx rfl (pc0 := 20) (pc' := 30) rfl (hb hby d8_20) rfl (feq (by rw [hch]; decide : ¬ (y0 = (84 : Int32)))).2 (by decide) (by decide) (XS.iloadN X1.here hx rfl (hb hby d8_30) rfl (XS.bipush X1.here hx rfl (hb hby d8_31) (XS.icmpNo X1.here hx rfl (hb hby d8_33) rfl (teq hch).2 k))))) ?_
  obtain ⟨T2, X2, e2, st2⟩ := getS2 X1 hx hZ hown (host := "") (Or.inl (ow51 hw)) Via.refl e1 S_M (g := (mkF m 36 #[.val (.int y0), .val (.ref wO)] [])) rfl (hb hby d8_36)
  refine own_go (T' := T2) (f' := (mkF m 67 #[.val (.int y0), .val (.ref wM)] [(.ref wM)])) (fun _ k => st2 _ (XS.astoreN X2.here hx rfl (hb hby d8_39) rfl rfl (l' := #[.val (.int y0), .val (.ref wM)]) rfl (XS.goto X2.here hx rfl (pc0 := 40) (pc' := 66) rfl (hb hby d8_40) (by decide) (by decide) (XS.aloadN X2.here hx rfl (hb hby d8_66) rfl rfl k)))) ?_
  refine own_ret X2 (v := some (.ref wM)) (fun h => by rw [Bd.returns] at h; cases h) Bd.notSynchronized (fun fs hr => own_retA X2 hx Bd.returns rfl rfl (hb hby d8_67) hr) ?_ (by decide) (by decide)
  show Q8M Z y0 wN wT wM wB wY wO h0 n0 _ T2.heap _
  exact ⟨rfl, N0, e2⟩
theorem d8_43 : decode method_4_code 43 = .ok (.iload_n 0, 1) := by decide +kernel
theorem d8_44 : decode method_4_code 44 = .ok (.bipush 66, 2) := by decide +kernel
theorem d8_46 : decode method_4_code 46 = .ok (.if_icmp .ne 10, 3) := by decide +kernel
theorem d8_49 : decode method_4_code 49 = .ok (.getstatic 38, 3) := by decide +kernel
theorem d8_52 : decode method_4_code 52 = .ok (.astore_n 1, 1) := by decide +kernel
theorem d8_53 : decode method_4_code 53 = .ok (.goto 13, 3) := by decide +kernel
theorem ef_rm8B (m : MethodId) (y0 : Int32) : entryFrame m #[(.int y0)] 2 = mkF m 0 #[.val (.int y0), .unset] [] := by first | (simp [entryFrame, mkF, argsToLocals, Value.category]; done) | rfl
def Q8B (Z : State) (y0 : Int32) (wN : Addr) (wT : Addr) (wM : Addr) (wB : Addr) (wY : Addr) (wO : Addr) (h0 : Heap) (n0 : Nat) (v : Option Value) (h : Heap) (L : List Loc) : Prop := v = some (.ref wB) ∧ Fr n0 L ∧ h = h0
set_option maxRecDepth 65536 in
set_option maxHeartbeats 40000000 in
theorem rm8B (l : Launch) (Z : State) (a0 : Array Value) (hw : ∀ d ∈ tables_1, d.before a0 Z = true) (ws : List Jvm.Cond) (y0 : Int32) (wN : Addr) (wT : Addr) (wM : Addr) (wB : Addr) (wY : Addr) (wO : Addr) (h0 : Heap) (n0 : Nat) (Z0 : n0 ≤ h0.size) (S_N : Sta Z h0 "com/example/tuple/tuple/model/Kind" "NUMBER" "Lcom/example/tuple/tuple/model/Kind;" (.ref wN)) (S_T : Sta Z h0 "com/example/tuple/tuple/model/Kind" "TEXT" "Lcom/example/tuple/tuple/model/Kind;" (.ref wT)) (S_M : Sta Z h0 "com/example/tuple/tuple/model/Kind" "TEMPORAL" "Lcom/example/tuple/tuple/model/Kind;" (.ref wM)) (S_B : Sta Z h0 "com/example/tuple/tuple/model/Kind" "BOOLEAN" "Lcom/example/tuple/tuple/model/Kind;" (.ref wB)) (S_Y : Sta Z h0 "com/example/tuple/tuple/model/Kind" "BINARY" "Lcom/example/tuple/tuple/model/Kind;" (.ref wY)) (S_O : Sta Z h0 "com/example/tuple/tuple/model/Kind" "OTHER" "Lcom/example/tuple/tuple/model/Kind;" (.ref wO)) (hch : y0 = (66 : Int32)) :
    MetFree l mn6 (head1 (Jvm.Cond.code mn6 method_4_code 2 (some (.object "com/example/tuple/tuple/model/Kind")) :: ws) ({ frames := 0, cells := 0, slots := 0, locals := 0 } : Room)) (fun a U => a = #[(.int y0)] ∧ Z.Warmed39 U.vm ∧ U.heap = h0) (fun _ _ _ _ _ => True) (fun _ U o U' => ∃ v L, o = .returned v ∧ Q8B Z y0 wN wT wM wB wY wO h0 n0 v U'.heap L ∧ FrameEnd U o U' L ({ frames := 0, cells := 0, slots := 0, locals := 0 } : Room).cells ({ frames := 0, cells := 0, slots := 0, locals := 0 } : Room).slots) := by
  refine MetFree.of_bodySF (plainFor_of_name pn_1) hisR ?_
  intro p e s m args below meth c s₁ Bd hml0 hP hK
  obtain ⟨rfl, hZ, hh⟩ := hP
  have hx := Bd.exec
  have hby := Bd.bytes
  have hml : c.maxLocals = 2 := hml0
  have hown : s.vm.findClass "com/example/tuple/tuple/model/KindOfSqlTypePinLaw" = some m.cls := findClass_of_methodNamed Bd.named
  have hnm := (name_of_methodNamed Bd.named Bd.method).1
  have X0 : Stand p l e ({ frames := 0, cells := 0, slots := 0, locals := 0 } : Room) s m #[(.int y0)] below meth c s₁ [] 0 0 := Stand.of_body Bd
  have e0 : s₁.heap = h0 := by rw [← hh, Bd.state]; rfl
  have N0 := Fr.nil n0
  show own_Ends p e below s (Q8B Z y0 wN wT wM wB wY wO h0 n0) _ _ s₁ _
  rw [ef_rm8B m y0]
  obtain ⟨T1, X1, e1, st1⟩ := getS2 X0 hx hZ hown (host := "") (Or.inl (ow1 hw)) Via.refl e0 S_O (g := (mkF m 0 #[.val (.int y0), .unset] [])) rfl (hb hby d8_0)
  refine own_go (T' := T1) (f' := (mkF m 18 #[.val (.int y0), .val (.ref wO)] [(.int y0)])) (fun _ k => st1 _ (XS.astoreN X1.here hx rfl (hb hby d8_3) rfl rfl (l' := #[.val (.int y0), .val (.ref wO)]) rfl (XS.iloadN X1.here hx rfl (hb hby d8_4) rfl (XS.bipush X1.here hx rfl (hb hby d8_5) (XS.icmpYes X1.here hx rfl (pc0 := 7) (pc' := 17) rfl (hb hby d8_7) rfl (feq (by rw [hch]; decide : ¬ (y0 = (78 : Int32)))).2 (by decide) (by decide) (XS.iloadN X1.here hx rfl (hb hby d8_17) rfl k)))))) ?_
  refine own_go (T' := T1) (f' := (mkF m 44 #[.val (.int y0), .val (.ref wO)] [(.int y0)])) (fun _ k => XS.bipush X1.here hx rfl (hb hby d8_18) (XS.icmpYes X1.here hx rfl (pc0 := 20) (pc' := 30) rfl (hb hby d8_20) rfl (feq (by rw [hch]; decide : ¬ (y0 = (84 : Int32)))).2 (by decide) (by decide) (XS.iloadN X1.here hx rfl (hb hby d8_30) rfl (XS.bipush X1.here hx rfl (hb hby d8_31) (XS.icmpYes X1.here hx rfl (pc0 := 33) (pc' := 43) rfl (hb hby d8_33) rfl (feq (by rw [hch]; decide : ¬ (y0 = (77 : Int32)))).2 (by decide) (by decide) (XS.iloadN X1.here hx rfl (hb hby d8_43) rfl k)))))) ?_
  refine own_go (T' := T1) (f' := (mkF m 49 #[.val (.int y0), .val (.ref wO)] [])) (fun _ k => XS.bipush X1.here hx rfl (hb hby d8_44) (XS.icmpNo X1.here hx rfl (hb hby d8_46) rfl (teq hch).2 k)) ?_
  obtain ⟨T2, X2, e2, st2⟩ := getS2 X1 hx hZ hown (host := "") (Or.inl (ow64 hw)) Via.refl e1 S_B (g := (mkF m 49 #[.val (.int y0), .val (.ref wO)] [])) rfl (hb hby d8_49)
  refine own_go (T' := T2) (f' := (mkF m 67 #[.val (.int y0), .val (.ref wB)] [(.ref wB)])) (fun _ k => st2 _ (XS.astoreN X2.here hx rfl (hb hby d8_52) rfl rfl (l' := #[.val (.int y0), .val (.ref wB)]) rfl (XS.goto X2.here hx rfl (pc0 := 53) (pc' := 66) rfl (hb hby d8_53) (by decide) (by decide) (XS.aloadN X2.here hx rfl (hb hby d8_66) rfl rfl k)))) ?_
  refine own_ret X2 (v := some (.ref wB)) (fun h => by rw [Bd.returns] at h; cases h) Bd.notSynchronized (fun fs hr => own_retA X2 hx Bd.returns rfl rfl (hb hby d8_67) hr) ?_ (by decide) (by decide)
  show Q8B Z y0 wN wT wM wB wY wO h0 n0 _ T2.heap _
  exact ⟨rfl, N0, e2⟩
theorem d8_56 : decode method_4_code 56 = .ok (.iload_n 0, 1) := by decide +kernel
theorem d8_57 : decode method_4_code 57 = .ok (.bipush 89, 2) := by decide +kernel
theorem d8_59 : decode method_4_code 59 = .ok (.if_icmp .ne 7, 3) := by decide +kernel
theorem d8_62 : decode method_4_code 62 = .ok (.getstatic 41, 3) := by decide +kernel
theorem d8_65 : decode method_4_code 65 = .ok (.astore_n 1, 1) := by decide +kernel
theorem ef_rm8Y (m : MethodId) (y0 : Int32) : entryFrame m #[(.int y0)] 2 = mkF m 0 #[.val (.int y0), .unset] [] := by first | (simp [entryFrame, mkF, argsToLocals, Value.category]; done) | rfl
def Q8Y (Z : State) (y0 : Int32) (wN : Addr) (wT : Addr) (wM : Addr) (wB : Addr) (wY : Addr) (wO : Addr) (h0 : Heap) (n0 : Nat) (v : Option Value) (h : Heap) (L : List Loc) : Prop := v = some (.ref wY) ∧ Fr n0 L ∧ h = h0
set_option maxRecDepth 65536 in
set_option maxHeartbeats 40000000 in
theorem rm8Y (l : Launch) (Z : State) (a0 : Array Value) (hw : ∀ d ∈ tables_1, d.before a0 Z = true) (ws : List Jvm.Cond) (y0 : Int32) (wN : Addr) (wT : Addr) (wM : Addr) (wB : Addr) (wY : Addr) (wO : Addr) (h0 : Heap) (n0 : Nat) (Z0 : n0 ≤ h0.size) (S_N : Sta Z h0 "com/example/tuple/tuple/model/Kind" "NUMBER" "Lcom/example/tuple/tuple/model/Kind;" (.ref wN)) (S_T : Sta Z h0 "com/example/tuple/tuple/model/Kind" "TEXT" "Lcom/example/tuple/tuple/model/Kind;" (.ref wT)) (S_M : Sta Z h0 "com/example/tuple/tuple/model/Kind" "TEMPORAL" "Lcom/example/tuple/tuple/model/Kind;" (.ref wM)) (S_B : Sta Z h0 "com/example/tuple/tuple/model/Kind" "BOOLEAN" "Lcom/example/tuple/tuple/model/Kind;" (.ref wB)) (S_Y : Sta Z h0 "com/example/tuple/tuple/model/Kind" "BINARY" "Lcom/example/tuple/tuple/model/Kind;" (.ref wY)) (S_O : Sta Z h0 "com/example/tuple/tuple/model/Kind" "OTHER" "Lcom/example/tuple/tuple/model/Kind;" (.ref wO)) (hch : y0 = (89 : Int32)) :
    MetFree l mn6 (head1 (Jvm.Cond.code mn6 method_4_code 2 (some (.object "com/example/tuple/tuple/model/Kind")) :: ws) ({ frames := 0, cells := 0, slots := 0, locals := 0 } : Room)) (fun a U => a = #[(.int y0)] ∧ Z.Warmed39 U.vm ∧ U.heap = h0) (fun _ _ _ _ _ => True) (fun _ U o U' => ∃ v L, o = .returned v ∧ Q8Y Z y0 wN wT wM wB wY wO h0 n0 v U'.heap L ∧ FrameEnd U o U' L ({ frames := 0, cells := 0, slots := 0, locals := 0 } : Room).cells ({ frames := 0, cells := 0, slots := 0, locals := 0 } : Room).slots) := by
  refine MetFree.of_bodySF (plainFor_of_name pn_1) hisR ?_
  intro p e s m args below meth c s₁ Bd hml0 hP hK
  obtain ⟨rfl, hZ, hh⟩ := hP
  have hx := Bd.exec
  have hby := Bd.bytes
  have hml : c.maxLocals = 2 := hml0
  have hown : s.vm.findClass "com/example/tuple/tuple/model/KindOfSqlTypePinLaw" = some m.cls := findClass_of_methodNamed Bd.named
  have hnm := (name_of_methodNamed Bd.named Bd.method).1
  have X0 : Stand p l e ({ frames := 0, cells := 0, slots := 0, locals := 0 } : Room) s m #[(.int y0)] below meth c s₁ [] 0 0 := Stand.of_body Bd
  have e0 : s₁.heap = h0 := by rw [← hh, Bd.state]; rfl
  have N0 := Fr.nil n0
  show own_Ends p e below s (Q8Y Z y0 wN wT wM wB wY wO h0 n0) _ _ s₁ _
  rw [ef_rm8Y m y0]
  obtain ⟨T1, X1, e1, st1⟩ := getS2 X0 hx hZ hown (host := "") (Or.inl (ow1 hw)) Via.refl e0 S_O (g := (mkF m 0 #[.val (.int y0), .unset] [])) rfl (hb hby d8_0)
  refine own_go (T' := T1) (f' := (mkF m 18 #[.val (.int y0), .val (.ref wO)] [(.int y0)])) (fun _ k => st1 _ (XS.astoreN X1.here hx rfl (hb hby d8_3) rfl rfl (l' := #[.val (.int y0), .val (.ref wO)]) rfl (XS.iloadN X1.here hx rfl (hb hby d8_4) rfl (XS.bipush X1.here hx rfl (hb hby d8_5) (XS.icmpYes X1.here hx rfl (pc0 := 7) (pc' := 17) rfl (hb hby d8_7) rfl (feq (by rw [hch]; decide : ¬ (y0 = (78 : Int32)))).2 (by decide) (by decide) (XS.iloadN X1.here hx rfl (hb hby d8_17) rfl k)))))) ?_
  refine own_go (T' := T1) (f' := (mkF m 44 #[.val (.int y0), .val (.ref wO)] [(.int y0)])) (fun _ k => XS.bipush X1.here hx rfl (hb hby d8_18) (XS.icmpYes X1.here hx rfl (pc0 := 20) (pc' := 30) rfl (hb hby d8_20) rfl (feq (by rw [hch]; decide : ¬ (y0 = (84 : Int32)))).2 (by decide) (by decide) (XS.iloadN X1.here hx rfl (hb hby d8_30) rfl (XS.bipush X1.here hx rfl (hb hby d8_31) (XS.icmpYes X1.here hx rfl (pc0 := 33) (pc' := 43) rfl (hb hby d8_33) rfl (feq (by rw [hch]; decide : ¬ (y0 = (77 : Int32)))).2 (by decide) (by decide) (XS.iloadN X1.here hx rfl (hb hby d8_43) rfl k)))))) ?_
  refine own_go (T' := T1) (f' := (mkF m 62 #[.val (.int y0), .val (.ref wO)] [])) (fun _ k => XS.bipush X1.here hx rfl (hb hby d8_44) (XS.icmpYes X1.here hx rfl (pc0 := 46) (pc' := 56) rfl (hb hby d8_46) rfl (feq (by rw [hch]; decide : ¬ (y0 = (66 : Int32)))).2 (by decide) (by decide) (XS.iloadN X1.here hx rfl (hb hby d8_56) rfl (XS.bipush X1.here hx rfl (hb hby d8_57) (XS.icmpNo X1.here hx rfl (hb hby d8_59) rfl (teq hch).2 k))))) ?_
  obtain ⟨T2, X2, e2, st2⟩ := getS2 X1 hx hZ hown (host := "") (Or.inl (ow61 hw)) Via.refl e1 S_Y (g := (mkF m 62 #[.val (.int y0), .val (.ref wO)] [])) rfl (hb hby d8_62)
  refine own_go (T' := T2) (f' := (mkF m 67 #[.val (.int y0), .val (.ref wY)] [(.ref wY)])) (fun _ k => st2 _ (XS.astoreN X2.here hx rfl (hb hby d8_65) rfl rfl (l' := #[.val (.int y0), .val (.ref wY)]) rfl (XS.aloadN X2.here hx rfl (hb hby d8_66) rfl rfl k))) ?_
  refine own_ret X2 (v := some (.ref wY)) (fun h => by rw [Bd.returns] at h; cases h) Bd.notSynchronized (fun fs hr => own_retA X2 hx Bd.returns rfl rfl (hb hby d8_67) hr) ?_ (by decide) (by decide)
  show Q8Y Z y0 wN wT wM wB wY wO h0 n0 _ T2.heap _
  exact ⟨rfl, N0, e2⟩
theorem ef_rm8O (m : MethodId) (y0 : Int32) : entryFrame m #[(.int y0)] 2 = mkF m 0 #[.val (.int y0), .unset] [] := by first | (simp [entryFrame, mkF, argsToLocals, Value.category]; done) | rfl
def Q8O (Z : State) (y0 : Int32) (wN : Addr) (wT : Addr) (wM : Addr) (wB : Addr) (wY : Addr) (wO : Addr) (h0 : Heap) (n0 : Nat) (v : Option Value) (h : Heap) (L : List Loc) : Prop := v = some (.ref wO) ∧ Fr n0 L ∧ h = h0
set_option maxRecDepth 65536 in
set_option maxHeartbeats 40000000 in
theorem rm8O (l : Launch) (Z : State) (a0 : Array Value) (hw : ∀ d ∈ tables_1, d.before a0 Z = true) (ws : List Jvm.Cond) (y0 : Int32) (wN : Addr) (wT : Addr) (wM : Addr) (wB : Addr) (wY : Addr) (wO : Addr) (h0 : Heap) (n0 : Nat) (Z0 : n0 ≤ h0.size) (S_N : Sta Z h0 "com/example/tuple/tuple/model/Kind" "NUMBER" "Lcom/example/tuple/tuple/model/Kind;" (.ref wN)) (S_T : Sta Z h0 "com/example/tuple/tuple/model/Kind" "TEXT" "Lcom/example/tuple/tuple/model/Kind;" (.ref wT)) (S_M : Sta Z h0 "com/example/tuple/tuple/model/Kind" "TEMPORAL" "Lcom/example/tuple/tuple/model/Kind;" (.ref wM)) (S_B : Sta Z h0 "com/example/tuple/tuple/model/Kind" "BOOLEAN" "Lcom/example/tuple/tuple/model/Kind;" (.ref wB)) (S_Y : Sta Z h0 "com/example/tuple/tuple/model/Kind" "BINARY" "Lcom/example/tuple/tuple/model/Kind;" (.ref wY)) (S_O : Sta Z h0 "com/example/tuple/tuple/model/Kind" "OTHER" "Lcom/example/tuple/tuple/model/Kind;" (.ref wO)) (hch : y0 = (79 : Int32)) :
    MetFree l mn6 (head1 (Jvm.Cond.code mn6 method_4_code 2 (some (.object "com/example/tuple/tuple/model/Kind")) :: ws) ({ frames := 0, cells := 0, slots := 0, locals := 0 } : Room)) (fun a U => a = #[(.int y0)] ∧ Z.Warmed39 U.vm ∧ U.heap = h0) (fun _ _ _ _ _ => True) (fun _ U o U' => ∃ v L, o = .returned v ∧ Q8O Z y0 wN wT wM wB wY wO h0 n0 v U'.heap L ∧ FrameEnd U o U' L ({ frames := 0, cells := 0, slots := 0, locals := 0 } : Room).cells ({ frames := 0, cells := 0, slots := 0, locals := 0 } : Room).slots) := by
  refine MetFree.of_bodySF (plainFor_of_name pn_1) hisR ?_
  intro p e s m args below meth c s₁ Bd hml0 hP hK
  obtain ⟨rfl, hZ, hh⟩ := hP
  have hx := Bd.exec
  have hby := Bd.bytes
  have hml : c.maxLocals = 2 := hml0
  have hown : s.vm.findClass "com/example/tuple/tuple/model/KindOfSqlTypePinLaw" = some m.cls := findClass_of_methodNamed Bd.named
  have hnm := (name_of_methodNamed Bd.named Bd.method).1
  have X0 : Stand p l e ({ frames := 0, cells := 0, slots := 0, locals := 0 } : Room) s m #[(.int y0)] below meth c s₁ [] 0 0 := Stand.of_body Bd
  have e0 : s₁.heap = h0 := by rw [← hh, Bd.state]; rfl
  have N0 := Fr.nil n0
  show own_Ends p e below s (Q8O Z y0 wN wT wM wB wY wO h0 n0) _ _ s₁ _
  rw [ef_rm8O m y0]
  obtain ⟨T1, X1, e1, st1⟩ := getS2 X0 hx hZ hown (host := "") (Or.inl (ow1 hw)) Via.refl e0 S_O (g := (mkF m 0 #[.val (.int y0), .unset] [])) rfl (hb hby d8_0)
  refine own_go (T' := T1) (f' := (mkF m 18 #[.val (.int y0), .val (.ref wO)] [(.int y0)])) (fun _ k => st1 _ (XS.astoreN X1.here hx rfl (hb hby d8_3) rfl rfl (l' := #[.val (.int y0), .val (.ref wO)]) rfl (XS.iloadN X1.here hx rfl (hb hby d8_4) rfl (XS.bipush X1.here hx rfl (hb hby d8_5) (XS.icmpYes X1.here hx rfl (pc0 := 7) (pc' := 17) rfl (hb hby d8_7) rfl (feq (by rw [hch]; decide : ¬ (y0 = (78 : Int32)))).2 (by decide) (by decide) (XS.iloadN X1.here hx rfl (hb hby d8_17) rfl k)))))) ?_
  refine own_go (T' := T1) (f' := (mkF m 44 #[.val (.int y0), .val (.ref wO)] [(.int y0)])) (fun _ k => XS.bipush X1.here hx rfl (hb hby d8_18) (XS.icmpYes X1.here hx rfl (pc0 := 20) (pc' := 30) rfl (hb hby d8_20) rfl (feq (by rw [hch]; decide : ¬ (y0 = (84 : Int32)))).2 (by decide) (by decide) (XS.iloadN X1.here hx rfl (hb hby d8_30) rfl (XS.bipush X1.here hx rfl (hb hby d8_31) (XS.icmpYes X1.here hx rfl (pc0 := 33) (pc' := 43) rfl (hb hby d8_33) rfl (feq (by rw [hch]; decide : ¬ (y0 = (77 : Int32)))).2 (by decide) (by decide) (XS.iloadN X1.here hx rfl (hb hby d8_43) rfl k)))))) ?_
  refine own_go (T' := T1) (f' := (mkF m 67 #[.val (.int y0), .val (.ref wO)] [(.ref wO)])) (fun _ k => XS.bipush X1.here hx rfl (hb hby d8_44) (XS.icmpYes X1.here hx rfl (pc0 := 46) (pc' := 56) rfl (hb hby d8_46) rfl (feq (by rw [hch]; decide : ¬ (y0 = (66 : Int32)))).2 (by decide) (by decide) (XS.iloadN X1.here hx rfl (hb hby d8_56) rfl (XS.bipush X1.here hx rfl (hb hby d8_57) (XS.icmpYes X1.here hx rfl (pc0 := 59) (pc' := 66) rfl (hb hby d8_59) rfl (feq (by rw [hch]; decide : ¬ (y0 = (89 : Int32)))).2 (by decide) (by decide) (XS.aloadN X1.here hx rfl (hb hby d8_66) rfl rfl k)))))) ?_
  refine own_ret X1 (v := some (.ref wO)) (fun h => by rw [Bd.returns] at h; cases h) Bd.notSynchronized (fun fs hr => own_retA X1 hx Bd.returns rfl rfl (hb hby d8_67) hr) ?_ (by decide) (by decide)
  show Q8O Z y0 wN wT wM wB wY wO h0 n0 _ T1.heap _
  exact ⟨rfl, N0, e1⟩
theorem pd2 : parseMethodDescriptor "(I)C" = some ⟨[.int], some .char⟩ := by decide +kernel
theorem pd1 : parseMethodDescriptor "(C)Lcom/example/tuple/tuple/model/Kind;" = some ⟨[.char], some (.object "com/example/tuple/tuple/model/Kind")⟩ := by decide +kernel
theorem d2_0 : decode method_2_code 0 = .ok (.ldc 7, 2) := by decide +kernel
theorem d2_2 : decode method_2_code 2 = .ok (.iload_n 0, 1) := by decide +kernel
theorem d2_3 : decode method_2_code 3 = .ok (.bipush 16, 2) := by decide +kernel
theorem d2_5 : decode method_2_code 5 = .ok (.iadd, 1) := by decide +kernel
theorem d2_6 : decode method_2_code 6 = .ok (.invokevirtual 9, 3) := by decide +kernel
theorem d2_9 : decode method_2_code 9 = .ok (.invokestatic 15, 3) := by decide +kernel
theorem d2_12 : decode method_2_code 12 = .ok (.areturn, 1) := by decide +kernel
theorem ef_rm2B (m : MethodId) (y0 : Int32) : entryFrame m #[(.int y0)] 1 = mkF m 0 #[.val (.int y0)] [] := by first | (simp [entryFrame, mkF, argsToLocals, Value.category]; done) | rfl
def Q2B (Z : State) (B : State) (y0 : Int32) (cs : Int32) (fm : Value) (wN : Addr) (wT : Addr) (wM : Addr) (wB : Addr) (wY : Addr) (wO : Addr) (h0 : Heap) (n0 : Nat) (v : Option Value) (h : Heap) (vm : Vm) (L : List Loc) : Prop := v = some (.ref wB) ∧ Fr n0 L ∧ Keep h0 h []
set_option maxRecDepth 65536 in
set_option maxHeartbeats 40000000 in
theorem rm2B (l : Launch) (Z : State) (a0 : Array Value) (hw : ∀ d ∈ tables_1, d.before a0 Z = true) (ws : List Jvm.Cond) (B : State) (y0 : Int32) (cs : Int32) (fm : Value) (wN : Addr) (wT : Addr) (wM : Addr) (wB : Addr) (wY : Addr) (wO : Addr) (h0 : Heap) (n0 : Nat) (Z0 : n0 ≤ h0.size) (S_cs : Sta Z h0 "java/lang/String" "COMPACT_STRINGS" "Z" (.int cs)) (hcs : ¬ (cs = (0 : Int32))) (S_fm : Sta Z h0 "jdk/internal/util/Preconditions" "SIOOBE_FORMATTER" "Ljava/util/function/BiFunction;" fm) (hfm : fm.isRef = true) (S_N : Sta Z h0 "com/example/tuple/tuple/model/Kind" "NUMBER" "Lcom/example/tuple/tuple/model/Kind;" (.ref wN)) (S_T : Sta Z h0 "com/example/tuple/tuple/model/Kind" "TEXT" "Lcom/example/tuple/tuple/model/Kind;" (.ref wT)) (S_M : Sta Z h0 "com/example/tuple/tuple/model/Kind" "TEMPORAL" "Lcom/example/tuple/tuple/model/Kind;" (.ref wM)) (S_B : Sta Z h0 "com/example/tuple/tuple/model/Kind" "BOOLEAN" "Lcom/example/tuple/tuple/model/Kind;" (.ref wB)) (S_Y : Sta Z h0 "com/example/tuple/tuple/model/Kind" "BINARY" "Lcom/example/tuple/tuple/model/Kind;" (.ref wY)) (S_O : Sta Z h0 "com/example/tuple/tuple/model/Kind" "OTHER" "Lcom/example/tuple/tuple/model/Kind;" (.ref wO)) (I0 : IB Z B.vm []) (hk0 : ∀ (b : Addr) (cl : Cell), Z.heap[b]? = some cl → h0[b]? = some cl) (hcw : Jvm.Lit.compactW.before a0 Z = true) (hhld : Jvm.Lit.constHeld Z "com/example/tuple/tuple/model/KindOfSqlTypePinLaw" 7) (hlo : ¬ ((y0 + (16 : Int32)) < (0 : Int32))) (hhi : (y0 + (16 : Int32)) < (33 : Int32)) (hch : nar .char (own_ch own_lit0 (y0 + (16 : Int32))) = (66 : Int32)) :
    MetFree l mn7 (head1 (Jvm.Cond.code mn7 method_2_code 1 (some (.object "com/example/tuple/tuple/model/Kind")) :: ws) ({ frames := 4, cells := 2, slots := 136, locals := 53 } : Room)) (fun a U => a = #[(.int y0)] ∧ Z.Warmed39 U.vm ∧ B.WarmedH U.vm ∧ U.heap = h0) (fun _ _ _ _ _ => True) (fun _ U o U' => ∃ v L, o = .returned v ∧ Q2B Z B y0 cs fm wN wT wM wB wY wO h0 n0 v U'.heap U'.vm L ∧ ReturnedEndW U o U' L ({ frames := 4, cells := 2, slots := 136, locals := 53 } : Room).cells ({ frames := 4, cells := 2, slots := 136, locals := 53 } : Room).slots) := by
  refine MetFree.of_bodySF (plainFor_of_name pn_1) hisR ?_
  intro p e s m args below meth c s₁ Bd hml0 hP hK
  obtain ⟨rfl, hZ, hB, hh⟩ := hP
  have hx := Bd.exec
  have hby := Bd.bytes
  have hml : c.maxLocals = 1 := hml0
  have hown : s.vm.findClass "com/example/tuple/tuple/model/KindOfSqlTypePinLaw" = some m.cls := findClass_of_methodNamed Bd.named
  have hnm := (name_of_methodNamed Bd.named Bd.method).1
  have X0 : Stand p l e ({ frames := 4, cells := 2, slots := 136, locals := 53 } : Room) (s.setVm s.vm) m #[(.int y0)] below meth c s₁ [] 0 0 := Stand.of_body Bd
  have e0 : s₁.heap = h0 := by rw [← hh, Bd.state]; rfl
  have N0 := Fr.nil n0
  have hS : s.Since s.vm h0.size := (State.WarmedH.refl s).since _
  show own_EndsW p e below s (Q2B Z B y0 cs fm wN wT wM wB wY wO h0 n0) _ _ s₁ _
  rw [ef_rm2B m y0]
  have I1 := own_ib I0 hB
  have hkeep : ∀ (b : Addr) (cl : Cell), Z.heap[b]? = some cl → s.heap[b]? = some cl := by rw [hh]; exact hk0
  obtain ⟨a1, T1, h1, k1_1, b1, kc1, X1, e1, E1, hS1, hk1, -, -, gE1, gC1, gV1, gA1, -, -, IB1, Lt1, st1⟩ := ldcSVL (Z := Z) (s := (s.setVm s.vm)) (vm0 := s.vm) X0 hx hZ hown (ow12 hw) (own_wS hw) e0 ((State.WarmedH.refl (s.setVm s.vm)).since 0) (Nat.zero_le _) (Fr.nil _) hkeep I1 (by decide) hhld hcw (vs := own_lit0) (z := (33 : Int32)) own_lit0_ok (by decide) own_lit0_len (g := (mkF m 0 #[.val (.int y0)] [])) rfl (hb hby d2_0) (n := 132) (by decide) (by decide) (by decide) (by decide)
  have hM1 := own_sm hS1 hk1
  obtain ⟨X1, hS, hZ, hown⟩ := rebS hS (Nat.le_refl _) X1 hM1 E1.1 hZ hown
  have K1 : Keep h0 h1 [] := (Keep.refl h0 []).ext E1
  refine own_goW (T' := T1) (f' := (mkF m 6 #[.val (.int y0)] [(.int (y0 + (16 : Int32))), (.ref a1)])) (fun _ k => st1 _ (XS.iloadN X1.here hx rfl (hb hby d2_2) rfl (XS.bipush X1.here hx rfl (hb hby d2_3) (XS.iadd X1.here hx rfl (hb hby d2_5) rfl k)))) ?_
  obtain ⟨cq2, kq2, q2a, q2b, q2c⟩ := isOf hZ e1 gE1
  obtain ⟨_, _, ⟨T2, L2, k2, n2⟩, -, X2, ⟨Lc2, hQ2, l2, y2, z2⟩, st2⟩ := X1.virtualBack hx (y := mn4) (z := mn4) hown (mvT hZ (ow20 hw)) (mvT hZ (ow21 hw)) (notFace_of_selects (args := #[]) (mvT hZ (ow23 hw))) (mvT hZ (ow23 hw)) (mvT hZ (ow22 hw)) (by decide) (backOf (W := 0) (rm3 l Z a0 hw [] a1 (y0 + (16 : Int32)) cs fm b1 kc1 (33 : Int32) own_lit0 h1 n0 (Nat.le_trans Z0 E1.1) (S_cs.ext E1) hcs (S_fm.ext E1) hfm gE1 gC1 gV1 gA1 own_lit0_int hlo hhi) hZ (ow24 hw) (ow13 hw) (by decide) (by decide)) q2a q2c (g := (mkF m 6 #[.val (.int y0)] [(.int (y0 + (16 : Int32))), (.ref a1)])) rfl (by rw [hml]; rfl) (Steps.refl _) (argsL := [(.int (y0 + (16 : Int32)))]) (rest := []) (lenOf pd2 rfl) rfl (by show 2 * 0 + _ ≤ _; exact Nat.le_of_eq rfl) (hb hby d2_6) (fun _ _ => ⟨rfl, e1, (by decide : 2 + 0 ≤ _), (by decide : 136 + 0 ≤ _)⟩)
  dsimp only [Pt.U, Pt.locs, Pt.cells, Pt.slots] at X2 l2 y2 z2 st2 hQ2
  subst l2 y2 z2
  obtain ⟨rfl, N2q, hh2⟩ := hQ2
  have N2 := Fr.app N0 N2q
  refine own_goW (T' := T2) (f' := (mkF m 9 #[.val (.int y0)] [(.int (nar .char (own_ch own_lit0 (y0 + (16 : Int32)))))])) (fun _ k => st2.trans k) ?_
  obtain ⟨_, _, ⟨T3, L3, k3, n3⟩, -, X3, ⟨Lc3, hQ3, l3, y3, z3⟩, st3⟩ := Jvm.LawKit.callS X2 hx (y := mn6) hown (mvT hZ (ow45 hw)) (mvT hZ (ow46 hw)) (mvT hZ (ow10 hw)) (mvT hZ (ow47 hw)) (by decide) (backOf (W := 0) (rm8B l Z a0 hw [] (nar .char (own_ch own_lit0 (y0 + (16 : Int32)))) wN wT wM wB wY wO h1 n0 (Nat.le_trans Z0 E1.1) (S_N.ext E1) (S_T.ext E1) (S_M.ext E1) (S_B.ext E1) (S_Y.ext E1) (S_O.ext E1) hch) hZ (ow47 hw) (ow10 hw) (by decide) (by decide)) (g := (mkF m 9 #[.val (.int y0)] [(.int (nar .char (own_ch own_lit0 (y0 + (16 : Int32)))))])) rfl (by rw [hml]; rfl) (argsL := [(.int (nar .char (own_ch own_lit0 (y0 + (16 : Int32)))))]) (rest := []) (lenOf pd1 rfl) rfl (by show 2 * 0 + _ ≤ _; exact Nat.le_of_eq rfl) (hb hby d2_9) (fun _ _ => ⟨rfl, hh2, (by decide : 2 + 0 ≤ _), (by decide : 136 + 0 ≤ _)⟩)
  dsimp only [Pt.U, Pt.locs, Pt.cells, Pt.slots] at X3 l3 y3 z3 st3 hQ3
  subst l3 y3 z3
  obtain ⟨rfl, N3q, hh3⟩ := hQ3
  have N3 := Fr.app N2 N3q
  refine own_goW (T' := T3) (f' := (mkF m 12 #[.val (.int y0)] [(.ref wB)])) (fun _ k => st3 _ k) ?_
  refine own_retW X3 hS (by rw [hh3]; exact (Nat.le_refl _)) (v := some (.ref wB)) (fun h => by rw [Bd.returns] at h; cases h) Bd.notSynchronized (fun fs hr => own_retA X3 hx Bd.returns rfl rfl (hb hby d2_12) hr) ?_ (by decide) (by decide)
  show Q2B Z B y0 cs fm wN wT wM wB wY wO h0 n0 _ T3.heap T3.vm _
  rw [hh3]
  exact ⟨rfl, N3, K1⟩
theorem ef_rm2N (m : MethodId) (y0 : Int32) : entryFrame m #[(.int y0)] 1 = mkF m 0 #[.val (.int y0)] [] := by first | (simp [entryFrame, mkF, argsToLocals, Value.category]; done) | rfl
def Q2N (Z : State) (B : State) (y0 : Int32) (cs : Int32) (fm : Value) (wN : Addr) (wT : Addr) (wM : Addr) (wB : Addr) (wY : Addr) (wO : Addr) (h0 : Heap) (n0 : Nat) (v : Option Value) (h : Heap) (vm : Vm) (L : List Loc) : Prop := v = some (.ref wN) ∧ Fr n0 L ∧ Keep h0 h []
set_option maxRecDepth 65536 in
set_option maxHeartbeats 40000000 in
theorem rm2N (l : Launch) (Z : State) (a0 : Array Value) (hw : ∀ d ∈ tables_1, d.before a0 Z = true) (ws : List Jvm.Cond) (B : State) (y0 : Int32) (cs : Int32) (fm : Value) (wN : Addr) (wT : Addr) (wM : Addr) (wB : Addr) (wY : Addr) (wO : Addr) (h0 : Heap) (n0 : Nat) (Z0 : n0 ≤ h0.size) (S_cs : Sta Z h0 "java/lang/String" "COMPACT_STRINGS" "Z" (.int cs)) (hcs : ¬ (cs = (0 : Int32))) (S_fm : Sta Z h0 "jdk/internal/util/Preconditions" "SIOOBE_FORMATTER" "Ljava/util/function/BiFunction;" fm) (hfm : fm.isRef = true) (S_N : Sta Z h0 "com/example/tuple/tuple/model/Kind" "NUMBER" "Lcom/example/tuple/tuple/model/Kind;" (.ref wN)) (S_T : Sta Z h0 "com/example/tuple/tuple/model/Kind" "TEXT" "Lcom/example/tuple/tuple/model/Kind;" (.ref wT)) (S_M : Sta Z h0 "com/example/tuple/tuple/model/Kind" "TEMPORAL" "Lcom/example/tuple/tuple/model/Kind;" (.ref wM)) (S_B : Sta Z h0 "com/example/tuple/tuple/model/Kind" "BOOLEAN" "Lcom/example/tuple/tuple/model/Kind;" (.ref wB)) (S_Y : Sta Z h0 "com/example/tuple/tuple/model/Kind" "BINARY" "Lcom/example/tuple/tuple/model/Kind;" (.ref wY)) (S_O : Sta Z h0 "com/example/tuple/tuple/model/Kind" "OTHER" "Lcom/example/tuple/tuple/model/Kind;" (.ref wO)) (I0 : IB Z B.vm []) (hk0 : ∀ (b : Addr) (cl : Cell), Z.heap[b]? = some cl → h0[b]? = some cl) (hcw : Jvm.Lit.compactW.before a0 Z = true) (hhld : Jvm.Lit.constHeld Z "com/example/tuple/tuple/model/KindOfSqlTypePinLaw" 7) (hlo : ¬ ((y0 + (16 : Int32)) < (0 : Int32))) (hhi : (y0 + (16 : Int32)) < (33 : Int32)) (hch : nar .char (own_ch own_lit0 (y0 + (16 : Int32))) = (78 : Int32)) :
    MetFree l mn7 (head1 (Jvm.Cond.code mn7 method_2_code 1 (some (.object "com/example/tuple/tuple/model/Kind")) :: ws) ({ frames := 4, cells := 2, slots := 136, locals := 53 } : Room)) (fun a U => a = #[(.int y0)] ∧ Z.Warmed39 U.vm ∧ B.WarmedH U.vm ∧ U.heap = h0) (fun _ _ _ _ _ => True) (fun _ U o U' => ∃ v L, o = .returned v ∧ Q2N Z B y0 cs fm wN wT wM wB wY wO h0 n0 v U'.heap U'.vm L ∧ ReturnedEndW U o U' L ({ frames := 4, cells := 2, slots := 136, locals := 53 } : Room).cells ({ frames := 4, cells := 2, slots := 136, locals := 53 } : Room).slots) := by
  refine MetFree.of_bodySF (plainFor_of_name pn_1) hisR ?_
  intro p e s m args below meth c s₁ Bd hml0 hP hK
  obtain ⟨rfl, hZ, hB, hh⟩ := hP
  have hx := Bd.exec
  have hby := Bd.bytes
  have hml : c.maxLocals = 1 := hml0
  have hown : s.vm.findClass "com/example/tuple/tuple/model/KindOfSqlTypePinLaw" = some m.cls := findClass_of_methodNamed Bd.named
  have hnm := (name_of_methodNamed Bd.named Bd.method).1
  have X0 : Stand p l e ({ frames := 4, cells := 2, slots := 136, locals := 53 } : Room) (s.setVm s.vm) m #[(.int y0)] below meth c s₁ [] 0 0 := Stand.of_body Bd
  have e0 : s₁.heap = h0 := by rw [← hh, Bd.state]; rfl
  have N0 := Fr.nil n0
  have hS : s.Since s.vm h0.size := (State.WarmedH.refl s).since _
  show own_EndsW p e below s (Q2N Z B y0 cs fm wN wT wM wB wY wO h0 n0) _ _ s₁ _
  rw [ef_rm2N m y0]
  have I1 := own_ib I0 hB
  have hkeep : ∀ (b : Addr) (cl : Cell), Z.heap[b]? = some cl → s.heap[b]? = some cl := by rw [hh]; exact hk0
  obtain ⟨a1, T1, h1, k1_1, b1, kc1, X1, e1, E1, hS1, hk1, -, -, gE1, gC1, gV1, gA1, -, -, IB1, Lt1, st1⟩ := ldcSVL (Z := Z) (s := (s.setVm s.vm)) (vm0 := s.vm) X0 hx hZ hown (ow12 hw) (own_wS hw) e0 ((State.WarmedH.refl (s.setVm s.vm)).since 0) (Nat.zero_le _) (Fr.nil _) hkeep I1 (by decide) hhld hcw (vs := own_lit0) (z := (33 : Int32)) own_lit0_ok (by decide) own_lit0_len (g := (mkF m 0 #[.val (.int y0)] [])) rfl (hb hby d2_0) (n := 132) (by decide) (by decide) (by decide) (by decide)
  have hM1 := own_sm hS1 hk1
  obtain ⟨X1, hS, hZ, hown⟩ := rebS hS (Nat.le_refl _) X1 hM1 E1.1 hZ hown
  have K1 : Keep h0 h1 [] := (Keep.refl h0 []).ext E1
  refine own_goW (T' := T1) (f' := (mkF m 6 #[.val (.int y0)] [(.int (y0 + (16 : Int32))), (.ref a1)])) (fun _ k => st1 _ (XS.iloadN X1.here hx rfl (hb hby d2_2) rfl (XS.bipush X1.here hx rfl (hb hby d2_3) (XS.iadd X1.here hx rfl (hb hby d2_5) rfl k)))) ?_
  obtain ⟨cq2, kq2, q2a, q2b, q2c⟩ := isOf hZ e1 gE1
  obtain ⟨_, _, ⟨T2, L2, k2, n2⟩, -, X2, ⟨Lc2, hQ2, l2, y2, z2⟩, st2⟩ := X1.virtualBack hx (y := mn4) (z := mn4) hown (mvT hZ (ow20 hw)) (mvT hZ (ow21 hw)) (notFace_of_selects (args := #[]) (mvT hZ (ow23 hw))) (mvT hZ (ow23 hw)) (mvT hZ (ow22 hw)) (by decide) (backOf (W := 0) (rm3 l Z a0 hw [] a1 (y0 + (16 : Int32)) cs fm b1 kc1 (33 : Int32) own_lit0 h1 n0 (Nat.le_trans Z0 E1.1) (S_cs.ext E1) hcs (S_fm.ext E1) hfm gE1 gC1 gV1 gA1 own_lit0_int hlo hhi) hZ (ow24 hw) (ow13 hw) (by decide) (by decide)) q2a q2c (g := (mkF m 6 #[.val (.int y0)] [(.int (y0 + (16 : Int32))), (.ref a1)])) rfl (by rw [hml]; rfl) (Steps.refl _) (argsL := [(.int (y0 + (16 : Int32)))]) (rest := []) (lenOf pd2 rfl) rfl (by show 2 * 0 + _ ≤ _; exact Nat.le_of_eq rfl) (hb hby d2_6) (fun _ _ => ⟨rfl, e1, (by decide : 2 + 0 ≤ _), (by decide : 136 + 0 ≤ _)⟩)
  dsimp only [Pt.U, Pt.locs, Pt.cells, Pt.slots] at X2 l2 y2 z2 st2 hQ2
  subst l2 y2 z2
  obtain ⟨rfl, N2q, hh2⟩ := hQ2
  have N2 := Fr.app N0 N2q
  refine own_goW (T' := T2) (f' := (mkF m 9 #[.val (.int y0)] [(.int (nar .char (own_ch own_lit0 (y0 + (16 : Int32)))))])) (fun _ k => st2.trans k) ?_
  obtain ⟨_, _, ⟨T3, L3, k3, n3⟩, -, X3, ⟨Lc3, hQ3, l3, y3, z3⟩, st3⟩ := Jvm.LawKit.callS X2 hx (y := mn6) hown (mvT hZ (ow45 hw)) (mvT hZ (ow46 hw)) (mvT hZ (ow10 hw)) (mvT hZ (ow47 hw)) (by decide) (backOf (W := 0) (rm8N l Z a0 hw [] (nar .char (own_ch own_lit0 (y0 + (16 : Int32)))) wN wT wM wB wY wO h1 n0 (Nat.le_trans Z0 E1.1) (S_N.ext E1) (S_T.ext E1) (S_M.ext E1) (S_B.ext E1) (S_Y.ext E1) (S_O.ext E1) hch) hZ (ow47 hw) (ow10 hw) (by decide) (by decide)) (g := (mkF m 9 #[.val (.int y0)] [(.int (nar .char (own_ch own_lit0 (y0 + (16 : Int32)))))])) rfl (by rw [hml]; rfl) (argsL := [(.int (nar .char (own_ch own_lit0 (y0 + (16 : Int32)))))]) (rest := []) (lenOf pd1 rfl) rfl (by show 2 * 0 + _ ≤ _; exact Nat.le_of_eq rfl) (hb hby d2_9) (fun _ _ => ⟨rfl, hh2, (by decide : 2 + 0 ≤ _), (by decide : 136 + 0 ≤ _)⟩)
  dsimp only [Pt.U, Pt.locs, Pt.cells, Pt.slots] at X3 l3 y3 z3 st3 hQ3
  subst l3 y3 z3
  obtain ⟨rfl, N3q, hh3⟩ := hQ3
  have N3 := Fr.app N2 N3q
  refine own_goW (T' := T3) (f' := (mkF m 12 #[.val (.int y0)] [(.ref wN)])) (fun _ k => st3 _ k) ?_
  refine own_retW X3 hS (by rw [hh3]; exact (Nat.le_refl _)) (v := some (.ref wN)) (fun h => by rw [Bd.returns] at h; cases h) Bd.notSynchronized (fun fs hr => own_retA X3 hx Bd.returns rfl rfl (hb hby d2_12) hr) ?_ (by decide) (by decide)
  show Q2N Z B y0 cs fm wN wT wM wB wY wO h0 n0 _ T3.heap T3.vm _
  rw [hh3]
  exact ⟨rfl, N3, K1⟩
theorem ef_rm2O (m : MethodId) (y0 : Int32) : entryFrame m #[(.int y0)] 1 = mkF m 0 #[.val (.int y0)] [] := by first | (simp [entryFrame, mkF, argsToLocals, Value.category]; done) | rfl
def Q2O (Z : State) (B : State) (y0 : Int32) (cs : Int32) (fm : Value) (wN : Addr) (wT : Addr) (wM : Addr) (wB : Addr) (wY : Addr) (wO : Addr) (h0 : Heap) (n0 : Nat) (v : Option Value) (h : Heap) (vm : Vm) (L : List Loc) : Prop := v = some (.ref wO) ∧ Fr n0 L ∧ Keep h0 h []
set_option maxRecDepth 65536 in
set_option maxHeartbeats 40000000 in
theorem rm2O (l : Launch) (Z : State) (a0 : Array Value) (hw : ∀ d ∈ tables_1, d.before a0 Z = true) (ws : List Jvm.Cond) (B : State) (y0 : Int32) (cs : Int32) (fm : Value) (wN : Addr) (wT : Addr) (wM : Addr) (wB : Addr) (wY : Addr) (wO : Addr) (h0 : Heap) (n0 : Nat) (Z0 : n0 ≤ h0.size) (S_cs : Sta Z h0 "java/lang/String" "COMPACT_STRINGS" "Z" (.int cs)) (hcs : ¬ (cs = (0 : Int32))) (S_fm : Sta Z h0 "jdk/internal/util/Preconditions" "SIOOBE_FORMATTER" "Ljava/util/function/BiFunction;" fm) (hfm : fm.isRef = true) (S_N : Sta Z h0 "com/example/tuple/tuple/model/Kind" "NUMBER" "Lcom/example/tuple/tuple/model/Kind;" (.ref wN)) (S_T : Sta Z h0 "com/example/tuple/tuple/model/Kind" "TEXT" "Lcom/example/tuple/tuple/model/Kind;" (.ref wT)) (S_M : Sta Z h0 "com/example/tuple/tuple/model/Kind" "TEMPORAL" "Lcom/example/tuple/tuple/model/Kind;" (.ref wM)) (S_B : Sta Z h0 "com/example/tuple/tuple/model/Kind" "BOOLEAN" "Lcom/example/tuple/tuple/model/Kind;" (.ref wB)) (S_Y : Sta Z h0 "com/example/tuple/tuple/model/Kind" "BINARY" "Lcom/example/tuple/tuple/model/Kind;" (.ref wY)) (S_O : Sta Z h0 "com/example/tuple/tuple/model/Kind" "OTHER" "Lcom/example/tuple/tuple/model/Kind;" (.ref wO)) (I0 : IB Z B.vm []) (hk0 : ∀ (b : Addr) (cl : Cell), Z.heap[b]? = some cl → h0[b]? = some cl) (hcw : Jvm.Lit.compactW.before a0 Z = true) (hhld : Jvm.Lit.constHeld Z "com/example/tuple/tuple/model/KindOfSqlTypePinLaw" 7) (hlo : ¬ ((y0 + (16 : Int32)) < (0 : Int32))) (hhi : (y0 + (16 : Int32)) < (33 : Int32)) (hch : nar .char (own_ch own_lit0 (y0 + (16 : Int32))) = (79 : Int32)) :
    MetFree l mn7 (head1 (Jvm.Cond.code mn7 method_2_code 1 (some (.object "com/example/tuple/tuple/model/Kind")) :: ws) ({ frames := 4, cells := 2, slots := 136, locals := 53 } : Room)) (fun a U => a = #[(.int y0)] ∧ Z.Warmed39 U.vm ∧ B.WarmedH U.vm ∧ U.heap = h0) (fun _ _ _ _ _ => True) (fun _ U o U' => ∃ v L, o = .returned v ∧ Q2O Z B y0 cs fm wN wT wM wB wY wO h0 n0 v U'.heap U'.vm L ∧ ReturnedEndW U o U' L ({ frames := 4, cells := 2, slots := 136, locals := 53 } : Room).cells ({ frames := 4, cells := 2, slots := 136, locals := 53 } : Room).slots) := by
  refine MetFree.of_bodySF (plainFor_of_name pn_1) hisR ?_
  intro p e s m args below meth c s₁ Bd hml0 hP hK
  obtain ⟨rfl, hZ, hB, hh⟩ := hP
  have hx := Bd.exec
  have hby := Bd.bytes
  have hml : c.maxLocals = 1 := hml0
  have hown : s.vm.findClass "com/example/tuple/tuple/model/KindOfSqlTypePinLaw" = some m.cls := findClass_of_methodNamed Bd.named
  have hnm := (name_of_methodNamed Bd.named Bd.method).1
  have X0 : Stand p l e ({ frames := 4, cells := 2, slots := 136, locals := 53 } : Room) (s.setVm s.vm) m #[(.int y0)] below meth c s₁ [] 0 0 := Stand.of_body Bd
  have e0 : s₁.heap = h0 := by rw [← hh, Bd.state]; rfl
  have N0 := Fr.nil n0
  have hS : s.Since s.vm h0.size := (State.WarmedH.refl s).since _
  show own_EndsW p e below s (Q2O Z B y0 cs fm wN wT wM wB wY wO h0 n0) _ _ s₁ _
  rw [ef_rm2O m y0]
  have I1 := own_ib I0 hB
  have hkeep : ∀ (b : Addr) (cl : Cell), Z.heap[b]? = some cl → s.heap[b]? = some cl := by rw [hh]; exact hk0
  obtain ⟨a1, T1, h1, k1_1, b1, kc1, X1, e1, E1, hS1, hk1, -, -, gE1, gC1, gV1, gA1, -, -, IB1, Lt1, st1⟩ := ldcSVL (Z := Z) (s := (s.setVm s.vm)) (vm0 := s.vm) X0 hx hZ hown (ow12 hw) (own_wS hw) e0 ((State.WarmedH.refl (s.setVm s.vm)).since 0) (Nat.zero_le _) (Fr.nil _) hkeep I1 (by decide) hhld hcw (vs := own_lit0) (z := (33 : Int32)) own_lit0_ok (by decide) own_lit0_len (g := (mkF m 0 #[.val (.int y0)] [])) rfl (hb hby d2_0) (n := 132) (by decide) (by decide) (by decide) (by decide)
  have hM1 := own_sm hS1 hk1
  obtain ⟨X1, hS, hZ, hown⟩ := rebS hS (Nat.le_refl _) X1 hM1 E1.1 hZ hown
  have K1 : Keep h0 h1 [] := (Keep.refl h0 []).ext E1
  refine own_goW (T' := T1) (f' := (mkF m 6 #[.val (.int y0)] [(.int (y0 + (16 : Int32))), (.ref a1)])) (fun _ k => st1 _ (XS.iloadN X1.here hx rfl (hb hby d2_2) rfl (XS.bipush X1.here hx rfl (hb hby d2_3) (XS.iadd X1.here hx rfl (hb hby d2_5) rfl k)))) ?_
  obtain ⟨cq2, kq2, q2a, q2b, q2c⟩ := isOf hZ e1 gE1
  obtain ⟨_, _, ⟨T2, L2, k2, n2⟩, -, X2, ⟨Lc2, hQ2, l2, y2, z2⟩, st2⟩ := X1.virtualBack hx (y := mn4) (z := mn4) hown (mvT hZ (ow20 hw)) (mvT hZ (ow21 hw)) (notFace_of_selects (args := #[]) (mvT hZ (ow23 hw))) (mvT hZ (ow23 hw)) (mvT hZ (ow22 hw)) (by decide) (backOf (W := 0) (rm3 l Z a0 hw [] a1 (y0 + (16 : Int32)) cs fm b1 kc1 (33 : Int32) own_lit0 h1 n0 (Nat.le_trans Z0 E1.1) (S_cs.ext E1) hcs (S_fm.ext E1) hfm gE1 gC1 gV1 gA1 own_lit0_int hlo hhi) hZ (ow24 hw) (ow13 hw) (by decide) (by decide)) q2a q2c (g := (mkF m 6 #[.val (.int y0)] [(.int (y0 + (16 : Int32))), (.ref a1)])) rfl (by rw [hml]; rfl) (Steps.refl _) (argsL := [(.int (y0 + (16 : Int32)))]) (rest := []) (lenOf pd2 rfl) rfl (by show 2 * 0 + _ ≤ _; exact Nat.le_of_eq rfl) (hb hby d2_6) (fun _ _ => ⟨rfl, e1, (by decide : 2 + 0 ≤ _), (by decide : 136 + 0 ≤ _)⟩)
  dsimp only [Pt.U, Pt.locs, Pt.cells, Pt.slots] at X2 l2 y2 z2 st2 hQ2
  subst l2 y2 z2
  obtain ⟨rfl, N2q, hh2⟩ := hQ2
  have N2 := Fr.app N0 N2q
  refine own_goW (T' := T2) (f' := (mkF m 9 #[.val (.int y0)] [(.int (nar .char (own_ch own_lit0 (y0 + (16 : Int32)))))])) (fun _ k => st2.trans k) ?_
  obtain ⟨_, _, ⟨T3, L3, k3, n3⟩, -, X3, ⟨Lc3, hQ3, l3, y3, z3⟩, st3⟩ := Jvm.LawKit.callS X2 hx (y := mn6) hown (mvT hZ (ow45 hw)) (mvT hZ (ow46 hw)) (mvT hZ (ow10 hw)) (mvT hZ (ow47 hw)) (by decide) (backOf (W := 0) (rm8O l Z a0 hw [] (nar .char (own_ch own_lit0 (y0 + (16 : Int32)))) wN wT wM wB wY wO h1 n0 (Nat.le_trans Z0 E1.1) (S_N.ext E1) (S_T.ext E1) (S_M.ext E1) (S_B.ext E1) (S_Y.ext E1) (S_O.ext E1) hch) hZ (ow47 hw) (ow10 hw) (by decide) (by decide)) (g := (mkF m 9 #[.val (.int y0)] [(.int (nar .char (own_ch own_lit0 (y0 + (16 : Int32)))))])) rfl (by rw [hml]; rfl) (argsL := [(.int (nar .char (own_ch own_lit0 (y0 + (16 : Int32)))))]) (rest := []) (lenOf pd1 rfl) rfl (by show 2 * 0 + _ ≤ _; exact Nat.le_of_eq rfl) (hb hby d2_9) (fun _ _ => ⟨rfl, hh2, (by decide : 2 + 0 ≤ _), (by decide : 136 + 0 ≤ _)⟩)
  dsimp only [Pt.U, Pt.locs, Pt.cells, Pt.slots] at X3 l3 y3 z3 st3 hQ3
  subst l3 y3 z3
  obtain ⟨rfl, N3q, hh3⟩ := hQ3
  have N3 := Fr.app N2 N3q
  refine own_goW (T' := T3) (f' := (mkF m 12 #[.val (.int y0)] [(.ref wO)])) (fun _ k => st3 _ k) ?_
  refine own_retW X3 hS (by rw [hh3]; exact (Nat.le_refl _)) (v := some (.ref wO)) (fun h => by rw [Bd.returns] at h; cases h) Bd.notSynchronized (fun fs hr => own_retA X3 hx Bd.returns rfl rfl (hb hby d2_12) hr) ?_ (by decide) (by decide)
  show Q2O Z B y0 cs fm wN wT wM wB wY wO h0 n0 _ T3.heap T3.vm _
  rw [hh3]
  exact ⟨rfl, N3, K1⟩
theorem ef_rm2T (m : MethodId) (y0 : Int32) : entryFrame m #[(.int y0)] 1 = mkF m 0 #[.val (.int y0)] [] := by first | (simp [entryFrame, mkF, argsToLocals, Value.category]; done) | rfl
def Q2T (Z : State) (B : State) (y0 : Int32) (cs : Int32) (fm : Value) (wN : Addr) (wT : Addr) (wM : Addr) (wB : Addr) (wY : Addr) (wO : Addr) (h0 : Heap) (n0 : Nat) (v : Option Value) (h : Heap) (vm : Vm) (L : List Loc) : Prop := v = some (.ref wT) ∧ Fr n0 L ∧ Keep h0 h []
set_option maxRecDepth 65536 in
set_option maxHeartbeats 40000000 in
theorem rm2T (l : Launch) (Z : State) (a0 : Array Value) (hw : ∀ d ∈ tables_1, d.before a0 Z = true) (ws : List Jvm.Cond) (B : State) (y0 : Int32) (cs : Int32) (fm : Value) (wN : Addr) (wT : Addr) (wM : Addr) (wB : Addr) (wY : Addr) (wO : Addr) (h0 : Heap) (n0 : Nat) (Z0 : n0 ≤ h0.size) (S_cs : Sta Z h0 "java/lang/String" "COMPACT_STRINGS" "Z" (.int cs)) (hcs : ¬ (cs = (0 : Int32))) (S_fm : Sta Z h0 "jdk/internal/util/Preconditions" "SIOOBE_FORMATTER" "Ljava/util/function/BiFunction;" fm) (hfm : fm.isRef = true) (S_N : Sta Z h0 "com/example/tuple/tuple/model/Kind" "NUMBER" "Lcom/example/tuple/tuple/model/Kind;" (.ref wN)) (S_T : Sta Z h0 "com/example/tuple/tuple/model/Kind" "TEXT" "Lcom/example/tuple/tuple/model/Kind;" (.ref wT)) (S_M : Sta Z h0 "com/example/tuple/tuple/model/Kind" "TEMPORAL" "Lcom/example/tuple/tuple/model/Kind;" (.ref wM)) (S_B : Sta Z h0 "com/example/tuple/tuple/model/Kind" "BOOLEAN" "Lcom/example/tuple/tuple/model/Kind;" (.ref wB)) (S_Y : Sta Z h0 "com/example/tuple/tuple/model/Kind" "BINARY" "Lcom/example/tuple/tuple/model/Kind;" (.ref wY)) (S_O : Sta Z h0 "com/example/tuple/tuple/model/Kind" "OTHER" "Lcom/example/tuple/tuple/model/Kind;" (.ref wO)) (I0 : IB Z B.vm []) (hk0 : ∀ (b : Addr) (cl : Cell), Z.heap[b]? = some cl → h0[b]? = some cl) (hcw : Jvm.Lit.compactW.before a0 Z = true) (hhld : Jvm.Lit.constHeld Z "com/example/tuple/tuple/model/KindOfSqlTypePinLaw" 7) (hlo : ¬ ((y0 + (16 : Int32)) < (0 : Int32))) (hhi : (y0 + (16 : Int32)) < (33 : Int32)) (hch : nar .char (own_ch own_lit0 (y0 + (16 : Int32))) = (84 : Int32)) :
    MetFree l mn7 (head1 (Jvm.Cond.code mn7 method_2_code 1 (some (.object "com/example/tuple/tuple/model/Kind")) :: ws) ({ frames := 4, cells := 2, slots := 136, locals := 53 } : Room)) (fun a U => a = #[(.int y0)] ∧ Z.Warmed39 U.vm ∧ B.WarmedH U.vm ∧ U.heap = h0) (fun _ _ _ _ _ => True) (fun _ U o U' => ∃ v L, o = .returned v ∧ Q2T Z B y0 cs fm wN wT wM wB wY wO h0 n0 v U'.heap U'.vm L ∧ ReturnedEndW U o U' L ({ frames := 4, cells := 2, slots := 136, locals := 53 } : Room).cells ({ frames := 4, cells := 2, slots := 136, locals := 53 } : Room).slots) := by
  refine MetFree.of_bodySF (plainFor_of_name pn_1) hisR ?_
  intro p e s m args below meth c s₁ Bd hml0 hP hK
  obtain ⟨rfl, hZ, hB, hh⟩ := hP
  have hx := Bd.exec
  have hby := Bd.bytes
  have hml : c.maxLocals = 1 := hml0
  have hown : s.vm.findClass "com/example/tuple/tuple/model/KindOfSqlTypePinLaw" = some m.cls := findClass_of_methodNamed Bd.named
  have hnm := (name_of_methodNamed Bd.named Bd.method).1
  have X0 : Stand p l e ({ frames := 4, cells := 2, slots := 136, locals := 53 } : Room) (s.setVm s.vm) m #[(.int y0)] below meth c s₁ [] 0 0 := Stand.of_body Bd
  have e0 : s₁.heap = h0 := by rw [← hh, Bd.state]; rfl
  have N0 := Fr.nil n0
  have hS : s.Since s.vm h0.size := (State.WarmedH.refl s).since _
  show own_EndsW p e below s (Q2T Z B y0 cs fm wN wT wM wB wY wO h0 n0) _ _ s₁ _
  rw [ef_rm2T m y0]
  have I1 := own_ib I0 hB
  have hkeep : ∀ (b : Addr) (cl : Cell), Z.heap[b]? = some cl → s.heap[b]? = some cl := by rw [hh]; exact hk0
  obtain ⟨a1, T1, h1, k1_1, b1, kc1, X1, e1, E1, hS1, hk1, -, -, gE1, gC1, gV1, gA1, -, -, IB1, Lt1, st1⟩ := ldcSVL (Z := Z) (s := (s.setVm s.vm)) (vm0 := s.vm) X0 hx hZ hown (ow12 hw) (own_wS hw) e0 ((State.WarmedH.refl (s.setVm s.vm)).since 0) (Nat.zero_le _) (Fr.nil _) hkeep I1 (by decide) hhld hcw (vs := own_lit0) (z := (33 : Int32)) own_lit0_ok (by decide) own_lit0_len (g := (mkF m 0 #[.val (.int y0)] [])) rfl (hb hby d2_0) (n := 132) (by decide) (by decide) (by decide) (by decide)
  have hM1 := own_sm hS1 hk1
  obtain ⟨X1, hS, hZ, hown⟩ := rebS hS (Nat.le_refl _) X1 hM1 E1.1 hZ hown
  have K1 : Keep h0 h1 [] := (Keep.refl h0 []).ext E1
  refine own_goW (T' := T1) (f' := (mkF m 6 #[.val (.int y0)] [(.int (y0 + (16 : Int32))), (.ref a1)])) (fun _ k => st1 _ (XS.iloadN X1.here hx rfl (hb hby d2_2) rfl (XS.bipush X1.here hx rfl (hb hby d2_3) (XS.iadd X1.here hx rfl (hb hby d2_5) rfl k)))) ?_
  obtain ⟨cq2, kq2, q2a, q2b, q2c⟩ := isOf hZ e1 gE1
  obtain ⟨_, _, ⟨T2, L2, k2, n2⟩, -, X2, ⟨Lc2, hQ2, l2, y2, z2⟩, st2⟩ := X1.virtualBack hx (y := mn4) (z := mn4) hown (mvT hZ (ow20 hw)) (mvT hZ (ow21 hw)) (notFace_of_selects (args := #[]) (mvT hZ (ow23 hw))) (mvT hZ (ow23 hw)) (mvT hZ (ow22 hw)) (by decide) (backOf (W := 0) (rm3 l Z a0 hw [] a1 (y0 + (16 : Int32)) cs fm b1 kc1 (33 : Int32) own_lit0 h1 n0 (Nat.le_trans Z0 E1.1) (S_cs.ext E1) hcs (S_fm.ext E1) hfm gE1 gC1 gV1 gA1 own_lit0_int hlo hhi) hZ (ow24 hw) (ow13 hw) (by decide) (by decide)) q2a q2c (g := (mkF m 6 #[.val (.int y0)] [(.int (y0 + (16 : Int32))), (.ref a1)])) rfl (by rw [hml]; rfl) (Steps.refl _) (argsL := [(.int (y0 + (16 : Int32)))]) (rest := []) (lenOf pd2 rfl) rfl (by show 2 * 0 + _ ≤ _; exact Nat.le_of_eq rfl) (hb hby d2_6) (fun _ _ => ⟨rfl, e1, (by decide : 2 + 0 ≤ _), (by decide : 136 + 0 ≤ _)⟩)
  dsimp only [Pt.U, Pt.locs, Pt.cells, Pt.slots] at X2 l2 y2 z2 st2 hQ2
  subst l2 y2 z2
  obtain ⟨rfl, N2q, hh2⟩ := hQ2
  have N2 := Fr.app N0 N2q
  refine own_goW (T' := T2) (f' := (mkF m 9 #[.val (.int y0)] [(.int (nar .char (own_ch own_lit0 (y0 + (16 : Int32)))))])) (fun _ k => st2.trans k) ?_
  obtain ⟨_, _, ⟨T3, L3, k3, n3⟩, -, X3, ⟨Lc3, hQ3, l3, y3, z3⟩, st3⟩ := Jvm.LawKit.callS X2 hx (y := mn6) hown (mvT hZ (ow45 hw)) (mvT hZ (ow46 hw)) (mvT hZ (ow10 hw)) (mvT hZ (ow47 hw)) (by decide) (backOf (W := 0) (rm8T l Z a0 hw [] (nar .char (own_ch own_lit0 (y0 + (16 : Int32)))) wN wT wM wB wY wO h1 n0 (Nat.le_trans Z0 E1.1) (S_N.ext E1) (S_T.ext E1) (S_M.ext E1) (S_B.ext E1) (S_Y.ext E1) (S_O.ext E1) hch) hZ (ow47 hw) (ow10 hw) (by decide) (by decide)) (g := (mkF m 9 #[.val (.int y0)] [(.int (nar .char (own_ch own_lit0 (y0 + (16 : Int32)))))])) rfl (by rw [hml]; rfl) (argsL := [(.int (nar .char (own_ch own_lit0 (y0 + (16 : Int32)))))]) (rest := []) (lenOf pd1 rfl) rfl (by show 2 * 0 + _ ≤ _; exact Nat.le_of_eq rfl) (hb hby d2_9) (fun _ _ => ⟨rfl, hh2, (by decide : 2 + 0 ≤ _), (by decide : 136 + 0 ≤ _)⟩)
  dsimp only [Pt.U, Pt.locs, Pt.cells, Pt.slots] at X3 l3 y3 z3 st3 hQ3
  subst l3 y3 z3
  obtain ⟨rfl, N3q, hh3⟩ := hQ3
  have N3 := Fr.app N2 N3q
  refine own_goW (T' := T3) (f' := (mkF m 12 #[.val (.int y0)] [(.ref wT)])) (fun _ k => st3 _ k) ?_
  refine own_retW X3 hS (by rw [hh3]; exact (Nat.le_refl _)) (v := some (.ref wT)) (fun h => by rw [Bd.returns] at h; cases h) Bd.notSynchronized (fun fs hr => own_retA X3 hx Bd.returns rfl rfl (hb hby d2_12) hr) ?_ (by decide) (by decide)
  show Q2T Z B y0 cs fm wN wT wM wB wY wO h0 n0 _ T3.heap T3.vm _
  rw [hh3]
  exact ⟨rfl, N3, K1⟩
theorem ef_rm2Y (m : MethodId) (y0 : Int32) : entryFrame m #[(.int y0)] 1 = mkF m 0 #[.val (.int y0)] [] := by first | (simp [entryFrame, mkF, argsToLocals, Value.category]; done) | rfl
def Q2Y (Z : State) (B : State) (y0 : Int32) (cs : Int32) (fm : Value) (wN : Addr) (wT : Addr) (wM : Addr) (wB : Addr) (wY : Addr) (wO : Addr) (h0 : Heap) (n0 : Nat) (v : Option Value) (h : Heap) (vm : Vm) (L : List Loc) : Prop := v = some (.ref wY) ∧ Fr n0 L ∧ Keep h0 h []
set_option maxRecDepth 65536 in
set_option maxHeartbeats 40000000 in
theorem rm2Y (l : Launch) (Z : State) (a0 : Array Value) (hw : ∀ d ∈ tables_1, d.before a0 Z = true) (ws : List Jvm.Cond) (B : State) (y0 : Int32) (cs : Int32) (fm : Value) (wN : Addr) (wT : Addr) (wM : Addr) (wB : Addr) (wY : Addr) (wO : Addr) (h0 : Heap) (n0 : Nat) (Z0 : n0 ≤ h0.size) (S_cs : Sta Z h0 "java/lang/String" "COMPACT_STRINGS" "Z" (.int cs)) (hcs : ¬ (cs = (0 : Int32))) (S_fm : Sta Z h0 "jdk/internal/util/Preconditions" "SIOOBE_FORMATTER" "Ljava/util/function/BiFunction;" fm) (hfm : fm.isRef = true) (S_N : Sta Z h0 "com/example/tuple/tuple/model/Kind" "NUMBER" "Lcom/example/tuple/tuple/model/Kind;" (.ref wN)) (S_T : Sta Z h0 "com/example/tuple/tuple/model/Kind" "TEXT" "Lcom/example/tuple/tuple/model/Kind;" (.ref wT)) (S_M : Sta Z h0 "com/example/tuple/tuple/model/Kind" "TEMPORAL" "Lcom/example/tuple/tuple/model/Kind;" (.ref wM)) (S_B : Sta Z h0 "com/example/tuple/tuple/model/Kind" "BOOLEAN" "Lcom/example/tuple/tuple/model/Kind;" (.ref wB)) (S_Y : Sta Z h0 "com/example/tuple/tuple/model/Kind" "BINARY" "Lcom/example/tuple/tuple/model/Kind;" (.ref wY)) (S_O : Sta Z h0 "com/example/tuple/tuple/model/Kind" "OTHER" "Lcom/example/tuple/tuple/model/Kind;" (.ref wO)) (I0 : IB Z B.vm []) (hk0 : ∀ (b : Addr) (cl : Cell), Z.heap[b]? = some cl → h0[b]? = some cl) (hcw : Jvm.Lit.compactW.before a0 Z = true) (hhld : Jvm.Lit.constHeld Z "com/example/tuple/tuple/model/KindOfSqlTypePinLaw" 7) (hlo : ¬ ((y0 + (16 : Int32)) < (0 : Int32))) (hhi : (y0 + (16 : Int32)) < (33 : Int32)) (hch : nar .char (own_ch own_lit0 (y0 + (16 : Int32))) = (89 : Int32)) :
    MetFree l mn7 (head1 (Jvm.Cond.code mn7 method_2_code 1 (some (.object "com/example/tuple/tuple/model/Kind")) :: ws) ({ frames := 4, cells := 2, slots := 136, locals := 53 } : Room)) (fun a U => a = #[(.int y0)] ∧ Z.Warmed39 U.vm ∧ B.WarmedH U.vm ∧ U.heap = h0) (fun _ _ _ _ _ => True) (fun _ U o U' => ∃ v L, o = .returned v ∧ Q2Y Z B y0 cs fm wN wT wM wB wY wO h0 n0 v U'.heap U'.vm L ∧ ReturnedEndW U o U' L ({ frames := 4, cells := 2, slots := 136, locals := 53 } : Room).cells ({ frames := 4, cells := 2, slots := 136, locals := 53 } : Room).slots) := by
  refine MetFree.of_bodySF (plainFor_of_name pn_1) hisR ?_
  intro p e s m args below meth c s₁ Bd hml0 hP hK
  obtain ⟨rfl, hZ, hB, hh⟩ := hP
  have hx := Bd.exec
  have hby := Bd.bytes
  have hml : c.maxLocals = 1 := hml0
  have hown : s.vm.findClass "com/example/tuple/tuple/model/KindOfSqlTypePinLaw" = some m.cls := findClass_of_methodNamed Bd.named
  have hnm := (name_of_methodNamed Bd.named Bd.method).1
  have X0 : Stand p l e ({ frames := 4, cells := 2, slots := 136, locals := 53 } : Room) (s.setVm s.vm) m #[(.int y0)] below meth c s₁ [] 0 0 := Stand.of_body Bd
  have e0 : s₁.heap = h0 := by rw [← hh, Bd.state]; rfl
  have N0 := Fr.nil n0
  have hS : s.Since s.vm h0.size := (State.WarmedH.refl s).since _
  show own_EndsW p e below s (Q2Y Z B y0 cs fm wN wT wM wB wY wO h0 n0) _ _ s₁ _
  rw [ef_rm2Y m y0]
  have I1 := own_ib I0 hB
  have hkeep : ∀ (b : Addr) (cl : Cell), Z.heap[b]? = some cl → s.heap[b]? = some cl := by rw [hh]; exact hk0
  obtain ⟨a1, T1, h1, k1_1, b1, kc1, X1, e1, E1, hS1, hk1, -, -, gE1, gC1, gV1, gA1, -, -, IB1, Lt1, st1⟩ := ldcSVL (Z := Z) (s := (s.setVm s.vm)) (vm0 := s.vm) X0 hx hZ hown (ow12 hw) (own_wS hw) e0 ((State.WarmedH.refl (s.setVm s.vm)).since 0) (Nat.zero_le _) (Fr.nil _) hkeep I1 (by decide) hhld hcw (vs := own_lit0) (z := (33 : Int32)) own_lit0_ok (by decide) own_lit0_len (g := (mkF m 0 #[.val (.int y0)] [])) rfl (hb hby d2_0) (n := 132) (by decide) (by decide) (by decide) (by decide)
  have hM1 := own_sm hS1 hk1
  obtain ⟨X1, hS, hZ, hown⟩ := rebS hS (Nat.le_refl _) X1 hM1 E1.1 hZ hown
  have K1 : Keep h0 h1 [] := (Keep.refl h0 []).ext E1
  refine own_goW (T' := T1) (f' := (mkF m 6 #[.val (.int y0)] [(.int (y0 + (16 : Int32))), (.ref a1)])) (fun _ k => st1 _ (XS.iloadN X1.here hx rfl (hb hby d2_2) rfl (XS.bipush X1.here hx rfl (hb hby d2_3) (XS.iadd X1.here hx rfl (hb hby d2_5) rfl k)))) ?_
  obtain ⟨cq2, kq2, q2a, q2b, q2c⟩ := isOf hZ e1 gE1
  obtain ⟨_, _, ⟨T2, L2, k2, n2⟩, -, X2, ⟨Lc2, hQ2, l2, y2, z2⟩, st2⟩ := X1.virtualBack hx (y := mn4) (z := mn4) hown (mvT hZ (ow20 hw)) (mvT hZ (ow21 hw)) (notFace_of_selects (args := #[]) (mvT hZ (ow23 hw))) (mvT hZ (ow23 hw)) (mvT hZ (ow22 hw)) (by decide) (backOf (W := 0) (rm3 l Z a0 hw [] a1 (y0 + (16 : Int32)) cs fm b1 kc1 (33 : Int32) own_lit0 h1 n0 (Nat.le_trans Z0 E1.1) (S_cs.ext E1) hcs (S_fm.ext E1) hfm gE1 gC1 gV1 gA1 own_lit0_int hlo hhi) hZ (ow24 hw) (ow13 hw) (by decide) (by decide)) q2a q2c (g := (mkF m 6 #[.val (.int y0)] [(.int (y0 + (16 : Int32))), (.ref a1)])) rfl (by rw [hml]; rfl) (Steps.refl _) (argsL := [(.int (y0 + (16 : Int32)))]) (rest := []) (lenOf pd2 rfl) rfl (by show 2 * 0 + _ ≤ _; exact Nat.le_of_eq rfl) (hb hby d2_6) (fun _ _ => ⟨rfl, e1, (by decide : 2 + 0 ≤ _), (by decide : 136 + 0 ≤ _)⟩)
  dsimp only [Pt.U, Pt.locs, Pt.cells, Pt.slots] at X2 l2 y2 z2 st2 hQ2
  subst l2 y2 z2
  obtain ⟨rfl, N2q, hh2⟩ := hQ2
  have N2 := Fr.app N0 N2q
  refine own_goW (T' := T2) (f' := (mkF m 9 #[.val (.int y0)] [(.int (nar .char (own_ch own_lit0 (y0 + (16 : Int32)))))])) (fun _ k => st2.trans k) ?_
  obtain ⟨_, _, ⟨T3, L3, k3, n3⟩, -, X3, ⟨Lc3, hQ3, l3, y3, z3⟩, st3⟩ := Jvm.LawKit.callS X2 hx (y := mn6) hown (mvT hZ (ow45 hw)) (mvT hZ (ow46 hw)) (mvT hZ (ow10 hw)) (mvT hZ (ow47 hw)) (by decide) (backOf (W := 0) (rm8Y l Z a0 hw [] (nar .char (own_ch own_lit0 (y0 + (16 : Int32)))) wN wT wM wB wY wO h1 n0 (Nat.le_trans Z0 E1.1) (S_N.ext E1) (S_T.ext E1) (S_M.ext E1) (S_B.ext E1) (S_Y.ext E1) (S_O.ext E1) hch) hZ (ow47 hw) (ow10 hw) (by decide) (by decide)) (g := (mkF m 9 #[.val (.int y0)] [(.int (nar .char (own_ch own_lit0 (y0 + (16 : Int32)))))])) rfl (by rw [hml]; rfl) (argsL := [(.int (nar .char (own_ch own_lit0 (y0 + (16 : Int32)))))]) (rest := []) (lenOf pd1 rfl) rfl (by show 2 * 0 + _ ≤ _; exact Nat.le_of_eq rfl) (hb hby d2_9) (fun _ _ => ⟨rfl, hh2, (by decide : 2 + 0 ≤ _), (by decide : 136 + 0 ≤ _)⟩)
  dsimp only [Pt.U, Pt.locs, Pt.cells, Pt.slots] at X3 l3 y3 z3 st3 hQ3
  subst l3 y3 z3
  obtain ⟨rfl, N3q, hh3⟩ := hQ3
  have N3 := Fr.app N2 N3q
  refine own_goW (T' := T3) (f' := (mkF m 12 #[.val (.int y0)] [(.ref wY)])) (fun _ k => st3 _ k) ?_
  refine own_retW X3 hS (by rw [hh3]; exact (Nat.le_refl _)) (v := some (.ref wY)) (fun h => by rw [Bd.returns] at h; cases h) Bd.notSynchronized (fun fs hr => own_retA X3 hx Bd.returns rfl rfl (hb hby d2_12) hr) ?_ (by decide) (by decide)
  show Q2Y Z B y0 cs fm wN wT wM wB wY wO h0 n0 _ T3.heap T3.vm _
  rw [hh3]
  exact ⟨rfl, N3, K1⟩
theorem d9_0 : decode method_3_code 0 = .ok (.ldc 21, 2) := by decide +kernel
theorem d9_2 : decode method_3_code 2 = .ok (.iload_n 0, 1) := by decide +kernel
theorem d9_3 : decode method_3_code 3 = .ok (.sipush 2004, 3) := by decide +kernel
theorem d9_6 : decode method_3_code 6 = .ok (.isub, 1) := by decide +kernel
theorem d9_7 : decode method_3_code 7 = .ok (.invokevirtual 9, 3) := by decide +kernel
theorem d9_10 : decode method_3_code 10 = .ok (.invokestatic 15, 3) := by decide +kernel
theorem d9_13 : decode method_3_code 13 = .ok (.areturn, 1) := by decide +kernel
theorem ef_rm9M (m : MethodId) (y0 : Int32) : entryFrame m #[(.int y0)] 1 = mkF m 0 #[.val (.int y0)] [] := by first | (simp [entryFrame, mkF, argsToLocals, Value.category]; done) | rfl
def Q9M (Z : State) (B : State) (y0 : Int32) (cs : Int32) (fm : Value) (wN : Addr) (wT : Addr) (wM : Addr) (wB : Addr) (wY : Addr) (wO : Addr) (h0 : Heap) (n0 : Nat) (v : Option Value) (h : Heap) (vm : Vm) (L : List Loc) : Prop := v = some (.ref wM) ∧ Fr n0 L ∧ Keep h0 h []
set_option maxRecDepth 65536 in
set_option maxHeartbeats 40000000 in
theorem rm9M (l : Launch) (Z : State) (a0 : Array Value) (hw : ∀ d ∈ tables_1, d.before a0 Z = true) (ws : List Jvm.Cond) (B : State) (y0 : Int32) (cs : Int32) (fm : Value) (wN : Addr) (wT : Addr) (wM : Addr) (wB : Addr) (wY : Addr) (wO : Addr) (h0 : Heap) (n0 : Nat) (Z0 : n0 ≤ h0.size) (S_cs : Sta Z h0 "java/lang/String" "COMPACT_STRINGS" "Z" (.int cs)) (hcs : ¬ (cs = (0 : Int32))) (S_fm : Sta Z h0 "jdk/internal/util/Preconditions" "SIOOBE_FORMATTER" "Ljava/util/function/BiFunction;" fm) (hfm : fm.isRef = true) (S_N : Sta Z h0 "com/example/tuple/tuple/model/Kind" "NUMBER" "Lcom/example/tuple/tuple/model/Kind;" (.ref wN)) (S_T : Sta Z h0 "com/example/tuple/tuple/model/Kind" "TEXT" "Lcom/example/tuple/tuple/model/Kind;" (.ref wT)) (S_M : Sta Z h0 "com/example/tuple/tuple/model/Kind" "TEMPORAL" "Lcom/example/tuple/tuple/model/Kind;" (.ref wM)) (S_B : Sta Z h0 "com/example/tuple/tuple/model/Kind" "BOOLEAN" "Lcom/example/tuple/tuple/model/Kind;" (.ref wB)) (S_Y : Sta Z h0 "com/example/tuple/tuple/model/Kind" "BINARY" "Lcom/example/tuple/tuple/model/Kind;" (.ref wY)) (S_O : Sta Z h0 "com/example/tuple/tuple/model/Kind" "OTHER" "Lcom/example/tuple/tuple/model/Kind;" (.ref wO)) (I0 : IB Z B.vm []) (hk0 : ∀ (b : Addr) (cl : Cell), Z.heap[b]? = some cl → h0[b]? = some cl) (hcw : Jvm.Lit.compactW.before a0 Z = true) (hhld : Jvm.Lit.constHeld Z "com/example/tuple/tuple/model/KindOfSqlTypePinLaw" 21) (hlo : ¬ ((y0 - (2004 : Int32)) < (0 : Int32))) (hhi : (y0 - (2004 : Int32)) < (11 : Int32)) (hch : nar .char (own_ch own_lit1 (y0 - (2004 : Int32))) = (77 : Int32)) :
    MetFree l mn8 (head1 (Jvm.Cond.code mn8 method_3_code 1 (some (.object "com/example/tuple/tuple/model/Kind")) :: ws) ({ frames := 4, cells := 2, slots := 48, locals := 53 } : Room)) (fun a U => a = #[(.int y0)] ∧ Z.Warmed39 U.vm ∧ B.WarmedH U.vm ∧ U.heap = h0) (fun _ _ _ _ _ => True) (fun _ U o U' => ∃ v L, o = .returned v ∧ Q9M Z B y0 cs fm wN wT wM wB wY wO h0 n0 v U'.heap U'.vm L ∧ ReturnedEndW U o U' L ({ frames := 4, cells := 2, slots := 48, locals := 53 } : Room).cells ({ frames := 4, cells := 2, slots := 48, locals := 53 } : Room).slots) := by
  refine MetFree.of_bodySF (plainFor_of_name pn_1) hisR ?_
  intro p e s m args below meth c s₁ Bd hml0 hP hK
  obtain ⟨rfl, hZ, hB, hh⟩ := hP
  have hx := Bd.exec
  have hby := Bd.bytes
  have hml : c.maxLocals = 1 := hml0
  have hown : s.vm.findClass "com/example/tuple/tuple/model/KindOfSqlTypePinLaw" = some m.cls := findClass_of_methodNamed Bd.named
  have hnm := (name_of_methodNamed Bd.named Bd.method).1
  have X0 : Stand p l e ({ frames := 4, cells := 2, slots := 48, locals := 53 } : Room) (s.setVm s.vm) m #[(.int y0)] below meth c s₁ [] 0 0 := Stand.of_body Bd
  have e0 : s₁.heap = h0 := by rw [← hh, Bd.state]; rfl
  have N0 := Fr.nil n0
  have hS : s.Since s.vm h0.size := (State.WarmedH.refl s).since _
  show own_EndsW p e below s (Q9M Z B y0 cs fm wN wT wM wB wY wO h0 n0) _ _ s₁ _
  rw [ef_rm9M m y0]
  have I1 := own_ib I0 hB
  have hkeep : ∀ (b : Addr) (cl : Cell), Z.heap[b]? = some cl → s.heap[b]? = some cl := by rw [hh]; exact hk0
  obtain ⟨a1, T1, h1, k1_1, b1, kc1, X1, e1, E1, hS1, hk1, -, -, gE1, gC1, gV1, gA1, -, -, IB1, Lt1, st1⟩ := ldcSVL (Z := Z) (s := (s.setVm s.vm)) (vm0 := s.vm) X0 hx hZ hown (ow60 hw) (own_wS hw) e0 ((State.WarmedH.refl (s.setVm s.vm)).since 0) (Nat.zero_le _) (Fr.nil _) hkeep I1 (by decide) hhld hcw (vs := own_lit1) (z := (11 : Int32)) own_lit1_ok (by decide) own_lit1_len (g := (mkF m 0 #[.val (.int y0)] [])) rfl (hb hby d9_0) (n := 44) (by decide) (by decide) (by decide) (by decide)
  have hM1 := own_sm hS1 hk1
  obtain ⟨X1, hS, hZ, hown⟩ := rebS hS (Nat.le_refl _) X1 hM1 E1.1 hZ hown
  have K1 : Keep h0 h1 [] := (Keep.refl h0 []).ext E1
  refine own_goW (T' := T1) (f' := (mkF m 7 #[.val (.int y0)] [(.int (y0 - (2004 : Int32))), (.ref a1)])) (fun _ k => st1 _ (XS.iloadN X1.here hx rfl (hb hby d9_2) rfl (XS.sipush X1.here hx rfl (hb hby d9_3) (XS.isub X1.here hx rfl (hb hby d9_6) rfl k)))) ?_
  obtain ⟨cq2, kq2, q2a, q2b, q2c⟩ := isOf hZ e1 gE1
  obtain ⟨_, _, ⟨T2, L2, k2, n2⟩, -, X2, ⟨Lc2, hQ2, l2, y2, z2⟩, st2⟩ := X1.virtualBack hx (y := mn4) (z := mn4) hown (mvT hZ (ow20 hw)) (mvT hZ (ow21 hw)) (notFace_of_selects (args := #[]) (mvT hZ (ow23 hw))) (mvT hZ (ow23 hw)) (mvT hZ (ow22 hw)) (by decide) (backOf (W := 0) (rm3 l Z a0 hw [] a1 (y0 - (2004 : Int32)) cs fm b1 kc1 (11 : Int32) own_lit1 h1 n0 (Nat.le_trans Z0 E1.1) (S_cs.ext E1) hcs (S_fm.ext E1) hfm gE1 gC1 gV1 gA1 own_lit1_int hlo hhi) hZ (ow24 hw) (ow13 hw) (by decide) (by decide)) q2a q2c (g := (mkF m 7 #[.val (.int y0)] [(.int (y0 - (2004 : Int32))), (.ref a1)])) rfl (by rw [hml]; rfl) (Steps.refl _) (argsL := [(.int (y0 - (2004 : Int32)))]) (rest := []) (lenOf pd2 rfl) rfl (by show 2 * 0 + _ ≤ _; exact Nat.le_of_eq rfl) (hb hby d9_7) (fun _ _ => ⟨rfl, e1, (by decide : 2 + 0 ≤ _), (by decide : 48 + 0 ≤ _)⟩)
  dsimp only [Pt.U, Pt.locs, Pt.cells, Pt.slots] at X2 l2 y2 z2 st2 hQ2
  subst l2 y2 z2
  obtain ⟨rfl, N2q, hh2⟩ := hQ2
  have N2 := Fr.app N0 N2q
  refine own_goW (T' := T2) (f' := (mkF m 10 #[.val (.int y0)] [(.int (nar .char (own_ch own_lit1 (y0 - (2004 : Int32)))))])) (fun _ k => st2.trans k) ?_
  obtain ⟨_, _, ⟨T3, L3, k3, n3⟩, -, X3, ⟨Lc3, hQ3, l3, y3, z3⟩, st3⟩ := Jvm.LawKit.callS X2 hx (y := mn6) hown (mvT hZ (ow45 hw)) (mvT hZ (ow46 hw)) (mvT hZ (ow10 hw)) (mvT hZ (ow47 hw)) (by decide) (backOf (W := 0) (rm8M l Z a0 hw [] (nar .char (own_ch own_lit1 (y0 - (2004 : Int32)))) wN wT wM wB wY wO h1 n0 (Nat.le_trans Z0 E1.1) (S_N.ext E1) (S_T.ext E1) (S_M.ext E1) (S_B.ext E1) (S_Y.ext E1) (S_O.ext E1) hch) hZ (ow47 hw) (ow10 hw) (by decide) (by decide)) (g := (mkF m 10 #[.val (.int y0)] [(.int (nar .char (own_ch own_lit1 (y0 - (2004 : Int32)))))])) rfl (by rw [hml]; rfl) (argsL := [(.int (nar .char (own_ch own_lit1 (y0 - (2004 : Int32)))))]) (rest := []) (lenOf pd1 rfl) rfl (by show 2 * 0 + _ ≤ _; exact Nat.le_of_eq rfl) (hb hby d9_10) (fun _ _ => ⟨rfl, hh2, (by decide : 2 + 0 ≤ _), (by decide : 48 + 0 ≤ _)⟩)
  dsimp only [Pt.U, Pt.locs, Pt.cells, Pt.slots] at X3 l3 y3 z3 st3 hQ3
  subst l3 y3 z3
  obtain ⟨rfl, N3q, hh3⟩ := hQ3
  have N3 := Fr.app N2 N3q
  refine own_goW (T' := T3) (f' := (mkF m 13 #[.val (.int y0)] [(.ref wM)])) (fun _ k => st3 _ k) ?_
  refine own_retW X3 hS (by rw [hh3]; exact (Nat.le_refl _)) (v := some (.ref wM)) (fun h => by rw [Bd.returns] at h; cases h) Bd.notSynchronized (fun fs hr => own_retA X3 hx Bd.returns rfl rfl (hb hby d9_13) hr) ?_ (by decide) (by decide)
  show Q9M Z B y0 cs fm wN wT wM wB wY wO h0 n0 _ T3.heap T3.vm _
  rw [hh3]
  exact ⟨rfl, N3, K1⟩
theorem ef_rm9O (m : MethodId) (y0 : Int32) : entryFrame m #[(.int y0)] 1 = mkF m 0 #[.val (.int y0)] [] := by first | (simp [entryFrame, mkF, argsToLocals, Value.category]; done) | rfl
def Q9O (Z : State) (B : State) (y0 : Int32) (cs : Int32) (fm : Value) (wN : Addr) (wT : Addr) (wM : Addr) (wB : Addr) (wY : Addr) (wO : Addr) (h0 : Heap) (n0 : Nat) (v : Option Value) (h : Heap) (vm : Vm) (L : List Loc) : Prop := v = some (.ref wO) ∧ Fr n0 L ∧ Keep h0 h []
set_option maxRecDepth 65536 in
set_option maxHeartbeats 40000000 in
theorem rm9O (l : Launch) (Z : State) (a0 : Array Value) (hw : ∀ d ∈ tables_1, d.before a0 Z = true) (ws : List Jvm.Cond) (B : State) (y0 : Int32) (cs : Int32) (fm : Value) (wN : Addr) (wT : Addr) (wM : Addr) (wB : Addr) (wY : Addr) (wO : Addr) (h0 : Heap) (n0 : Nat) (Z0 : n0 ≤ h0.size) (S_cs : Sta Z h0 "java/lang/String" "COMPACT_STRINGS" "Z" (.int cs)) (hcs : ¬ (cs = (0 : Int32))) (S_fm : Sta Z h0 "jdk/internal/util/Preconditions" "SIOOBE_FORMATTER" "Ljava/util/function/BiFunction;" fm) (hfm : fm.isRef = true) (S_N : Sta Z h0 "com/example/tuple/tuple/model/Kind" "NUMBER" "Lcom/example/tuple/tuple/model/Kind;" (.ref wN)) (S_T : Sta Z h0 "com/example/tuple/tuple/model/Kind" "TEXT" "Lcom/example/tuple/tuple/model/Kind;" (.ref wT)) (S_M : Sta Z h0 "com/example/tuple/tuple/model/Kind" "TEMPORAL" "Lcom/example/tuple/tuple/model/Kind;" (.ref wM)) (S_B : Sta Z h0 "com/example/tuple/tuple/model/Kind" "BOOLEAN" "Lcom/example/tuple/tuple/model/Kind;" (.ref wB)) (S_Y : Sta Z h0 "com/example/tuple/tuple/model/Kind" "BINARY" "Lcom/example/tuple/tuple/model/Kind;" (.ref wY)) (S_O : Sta Z h0 "com/example/tuple/tuple/model/Kind" "OTHER" "Lcom/example/tuple/tuple/model/Kind;" (.ref wO)) (I0 : IB Z B.vm []) (hk0 : ∀ (b : Addr) (cl : Cell), Z.heap[b]? = some cl → h0[b]? = some cl) (hcw : Jvm.Lit.compactW.before a0 Z = true) (hhld : Jvm.Lit.constHeld Z "com/example/tuple/tuple/model/KindOfSqlTypePinLaw" 21) (hlo : ¬ ((y0 - (2004 : Int32)) < (0 : Int32))) (hhi : (y0 - (2004 : Int32)) < (11 : Int32)) (hch : nar .char (own_ch own_lit1 (y0 - (2004 : Int32))) = (79 : Int32)) :
    MetFree l mn8 (head1 (Jvm.Cond.code mn8 method_3_code 1 (some (.object "com/example/tuple/tuple/model/Kind")) :: ws) ({ frames := 4, cells := 2, slots := 48, locals := 53 } : Room)) (fun a U => a = #[(.int y0)] ∧ Z.Warmed39 U.vm ∧ B.WarmedH U.vm ∧ U.heap = h0) (fun _ _ _ _ _ => True) (fun _ U o U' => ∃ v L, o = .returned v ∧ Q9O Z B y0 cs fm wN wT wM wB wY wO h0 n0 v U'.heap U'.vm L ∧ ReturnedEndW U o U' L ({ frames := 4, cells := 2, slots := 48, locals := 53 } : Room).cells ({ frames := 4, cells := 2, slots := 48, locals := 53 } : Room).slots) := by
  refine MetFree.of_bodySF (plainFor_of_name pn_1) hisR ?_
  intro p e s m args below meth c s₁ Bd hml0 hP hK
  obtain ⟨rfl, hZ, hB, hh⟩ := hP
  have hx := Bd.exec
  have hby := Bd.bytes
  have hml : c.maxLocals = 1 := hml0
  have hown : s.vm.findClass "com/example/tuple/tuple/model/KindOfSqlTypePinLaw" = some m.cls := findClass_of_methodNamed Bd.named
  have hnm := (name_of_methodNamed Bd.named Bd.method).1
  have X0 : Stand p l e ({ frames := 4, cells := 2, slots := 48, locals := 53 } : Room) (s.setVm s.vm) m #[(.int y0)] below meth c s₁ [] 0 0 := Stand.of_body Bd
  have e0 : s₁.heap = h0 := by rw [← hh, Bd.state]; rfl
  have N0 := Fr.nil n0
  have hS : s.Since s.vm h0.size := (State.WarmedH.refl s).since _
  show own_EndsW p e below s (Q9O Z B y0 cs fm wN wT wM wB wY wO h0 n0) _ _ s₁ _
  rw [ef_rm9O m y0]
  have I1 := own_ib I0 hB
  have hkeep : ∀ (b : Addr) (cl : Cell), Z.heap[b]? = some cl → s.heap[b]? = some cl := by rw [hh]; exact hk0
  obtain ⟨a1, T1, h1, k1_1, b1, kc1, X1, e1, E1, hS1, hk1, -, -, gE1, gC1, gV1, gA1, -, -, IB1, Lt1, st1⟩ := ldcSVL (Z := Z) (s := (s.setVm s.vm)) (vm0 := s.vm) X0 hx hZ hown (ow60 hw) (own_wS hw) e0 ((State.WarmedH.refl (s.setVm s.vm)).since 0) (Nat.zero_le _) (Fr.nil _) hkeep I1 (by decide) hhld hcw (vs := own_lit1) (z := (11 : Int32)) own_lit1_ok (by decide) own_lit1_len (g := (mkF m 0 #[.val (.int y0)] [])) rfl (hb hby d9_0) (n := 44) (by decide) (by decide) (by decide) (by decide)
  have hM1 := own_sm hS1 hk1
  obtain ⟨X1, hS, hZ, hown⟩ := rebS hS (Nat.le_refl _) X1 hM1 E1.1 hZ hown
  have K1 : Keep h0 h1 [] := (Keep.refl h0 []).ext E1
  refine own_goW (T' := T1) (f' := (mkF m 7 #[.val (.int y0)] [(.int (y0 - (2004 : Int32))), (.ref a1)])) (fun _ k => st1 _ (XS.iloadN X1.here hx rfl (hb hby d9_2) rfl (XS.sipush X1.here hx rfl (hb hby d9_3) (XS.isub X1.here hx rfl (hb hby d9_6) rfl k)))) ?_
  obtain ⟨cq2, kq2, q2a, q2b, q2c⟩ := isOf hZ e1 gE1
  obtain ⟨_, _, ⟨T2, L2, k2, n2⟩, -, X2, ⟨Lc2, hQ2, l2, y2, z2⟩, st2⟩ := X1.virtualBack hx (y := mn4) (z := mn4) hown (mvT hZ (ow20 hw)) (mvT hZ (ow21 hw)) (notFace_of_selects (args := #[]) (mvT hZ (ow23 hw))) (mvT hZ (ow23 hw)) (mvT hZ (ow22 hw)) (by decide) (backOf (W := 0) (rm3 l Z a0 hw [] a1 (y0 - (2004 : Int32)) cs fm b1 kc1 (11 : Int32) own_lit1 h1 n0 (Nat.le_trans Z0 E1.1) (S_cs.ext E1) hcs (S_fm.ext E1) hfm gE1 gC1 gV1 gA1 own_lit1_int hlo hhi) hZ (ow24 hw) (ow13 hw) (by decide) (by decide)) q2a q2c (g := (mkF m 7 #[.val (.int y0)] [(.int (y0 - (2004 : Int32))), (.ref a1)])) rfl (by rw [hml]; rfl) (Steps.refl _) (argsL := [(.int (y0 - (2004 : Int32)))]) (rest := []) (lenOf pd2 rfl) rfl (by show 2 * 0 + _ ≤ _; exact Nat.le_of_eq rfl) (hb hby d9_7) (fun _ _ => ⟨rfl, e1, (by decide : 2 + 0 ≤ _), (by decide : 48 + 0 ≤ _)⟩)
  dsimp only [Pt.U, Pt.locs, Pt.cells, Pt.slots] at X2 l2 y2 z2 st2 hQ2
  subst l2 y2 z2
  obtain ⟨rfl, N2q, hh2⟩ := hQ2
  have N2 := Fr.app N0 N2q
  refine own_goW (T' := T2) (f' := (mkF m 10 #[.val (.int y0)] [(.int (nar .char (own_ch own_lit1 (y0 - (2004 : Int32)))))])) (fun _ k => st2.trans k) ?_
  obtain ⟨_, _, ⟨T3, L3, k3, n3⟩, -, X3, ⟨Lc3, hQ3, l3, y3, z3⟩, st3⟩ := Jvm.LawKit.callS X2 hx (y := mn6) hown (mvT hZ (ow45 hw)) (mvT hZ (ow46 hw)) (mvT hZ (ow10 hw)) (mvT hZ (ow47 hw)) (by decide) (backOf (W := 0) (rm8O l Z a0 hw [] (nar .char (own_ch own_lit1 (y0 - (2004 : Int32)))) wN wT wM wB wY wO h1 n0 (Nat.le_trans Z0 E1.1) (S_N.ext E1) (S_T.ext E1) (S_M.ext E1) (S_B.ext E1) (S_Y.ext E1) (S_O.ext E1) hch) hZ (ow47 hw) (ow10 hw) (by decide) (by decide)) (g := (mkF m 10 #[.val (.int y0)] [(.int (nar .char (own_ch own_lit1 (y0 - (2004 : Int32)))))])) rfl (by rw [hml]; rfl) (argsL := [(.int (nar .char (own_ch own_lit1 (y0 - (2004 : Int32)))))]) (rest := []) (lenOf pd1 rfl) rfl (by show 2 * 0 + _ ≤ _; exact Nat.le_of_eq rfl) (hb hby d9_10) (fun _ _ => ⟨rfl, hh2, (by decide : 2 + 0 ≤ _), (by decide : 48 + 0 ≤ _)⟩)
  dsimp only [Pt.U, Pt.locs, Pt.cells, Pt.slots] at X3 l3 y3 z3 st3 hQ3
  subst l3 y3 z3
  obtain ⟨rfl, N3q, hh3⟩ := hQ3
  have N3 := Fr.app N2 N3q
  refine own_goW (T' := T3) (f' := (mkF m 13 #[.val (.int y0)] [(.ref wO)])) (fun _ k => st3 _ k) ?_
  refine own_retW X3 hS (by rw [hh3]; exact (Nat.le_refl _)) (v := some (.ref wO)) (fun h => by rw [Bd.returns] at h; cases h) Bd.notSynchronized (fun fs hr => own_retA X3 hx Bd.returns rfl rfl (hb hby d9_13) hr) ?_ (by decide) (by decide)
  show Q9O Z B y0 cs fm wN wT wM wB wY wO h0 n0 _ T3.heap T3.vm _
  rw [hh3]
  exact ⟨rfl, N3, K1⟩
theorem ef_rm9T (m : MethodId) (y0 : Int32) : entryFrame m #[(.int y0)] 1 = mkF m 0 #[.val (.int y0)] [] := by first | (simp [entryFrame, mkF, argsToLocals, Value.category]; done) | rfl
def Q9T (Z : State) (B : State) (y0 : Int32) (cs : Int32) (fm : Value) (wN : Addr) (wT : Addr) (wM : Addr) (wB : Addr) (wY : Addr) (wO : Addr) (h0 : Heap) (n0 : Nat) (v : Option Value) (h : Heap) (vm : Vm) (L : List Loc) : Prop := v = some (.ref wT) ∧ Fr n0 L ∧ Keep h0 h []
set_option maxRecDepth 65536 in
set_option maxHeartbeats 40000000 in
theorem rm9T (l : Launch) (Z : State) (a0 : Array Value) (hw : ∀ d ∈ tables_1, d.before a0 Z = true) (ws : List Jvm.Cond) (B : State) (y0 : Int32) (cs : Int32) (fm : Value) (wN : Addr) (wT : Addr) (wM : Addr) (wB : Addr) (wY : Addr) (wO : Addr) (h0 : Heap) (n0 : Nat) (Z0 : n0 ≤ h0.size) (S_cs : Sta Z h0 "java/lang/String" "COMPACT_STRINGS" "Z" (.int cs)) (hcs : ¬ (cs = (0 : Int32))) (S_fm : Sta Z h0 "jdk/internal/util/Preconditions" "SIOOBE_FORMATTER" "Ljava/util/function/BiFunction;" fm) (hfm : fm.isRef = true) (S_N : Sta Z h0 "com/example/tuple/tuple/model/Kind" "NUMBER" "Lcom/example/tuple/tuple/model/Kind;" (.ref wN)) (S_T : Sta Z h0 "com/example/tuple/tuple/model/Kind" "TEXT" "Lcom/example/tuple/tuple/model/Kind;" (.ref wT)) (S_M : Sta Z h0 "com/example/tuple/tuple/model/Kind" "TEMPORAL" "Lcom/example/tuple/tuple/model/Kind;" (.ref wM)) (S_B : Sta Z h0 "com/example/tuple/tuple/model/Kind" "BOOLEAN" "Lcom/example/tuple/tuple/model/Kind;" (.ref wB)) (S_Y : Sta Z h0 "com/example/tuple/tuple/model/Kind" "BINARY" "Lcom/example/tuple/tuple/model/Kind;" (.ref wY)) (S_O : Sta Z h0 "com/example/tuple/tuple/model/Kind" "OTHER" "Lcom/example/tuple/tuple/model/Kind;" (.ref wO)) (I0 : IB Z B.vm []) (hk0 : ∀ (b : Addr) (cl : Cell), Z.heap[b]? = some cl → h0[b]? = some cl) (hcw : Jvm.Lit.compactW.before a0 Z = true) (hhld : Jvm.Lit.constHeld Z "com/example/tuple/tuple/model/KindOfSqlTypePinLaw" 21) (hlo : ¬ ((y0 - (2004 : Int32)) < (0 : Int32))) (hhi : (y0 - (2004 : Int32)) < (11 : Int32)) (hch : nar .char (own_ch own_lit1 (y0 - (2004 : Int32))) = (84 : Int32)) :
    MetFree l mn8 (head1 (Jvm.Cond.code mn8 method_3_code 1 (some (.object "com/example/tuple/tuple/model/Kind")) :: ws) ({ frames := 4, cells := 2, slots := 48, locals := 53 } : Room)) (fun a U => a = #[(.int y0)] ∧ Z.Warmed39 U.vm ∧ B.WarmedH U.vm ∧ U.heap = h0) (fun _ _ _ _ _ => True) (fun _ U o U' => ∃ v L, o = .returned v ∧ Q9T Z B y0 cs fm wN wT wM wB wY wO h0 n0 v U'.heap U'.vm L ∧ ReturnedEndW U o U' L ({ frames := 4, cells := 2, slots := 48, locals := 53 } : Room).cells ({ frames := 4, cells := 2, slots := 48, locals := 53 } : Room).slots) := by
  refine MetFree.of_bodySF (plainFor_of_name pn_1) hisR ?_
  intro p e s m args below meth c s₁ Bd hml0 hP hK
  obtain ⟨rfl, hZ, hB, hh⟩ := hP
  have hx := Bd.exec
  have hby := Bd.bytes
  have hml : c.maxLocals = 1 := hml0
  have hown : s.vm.findClass "com/example/tuple/tuple/model/KindOfSqlTypePinLaw" = some m.cls := findClass_of_methodNamed Bd.named
  have hnm := (name_of_methodNamed Bd.named Bd.method).1
  have X0 : Stand p l e ({ frames := 4, cells := 2, slots := 48, locals := 53 } : Room) (s.setVm s.vm) m #[(.int y0)] below meth c s₁ [] 0 0 := Stand.of_body Bd
  have e0 : s₁.heap = h0 := by rw [← hh, Bd.state]; rfl
  have N0 := Fr.nil n0
  have hS : s.Since s.vm h0.size := (State.WarmedH.refl s).since _
  show own_EndsW p e below s (Q9T Z B y0 cs fm wN wT wM wB wY wO h0 n0) _ _ s₁ _
  rw [ef_rm9T m y0]
  have I1 := own_ib I0 hB
  have hkeep : ∀ (b : Addr) (cl : Cell), Z.heap[b]? = some cl → s.heap[b]? = some cl := by rw [hh]; exact hk0
  obtain ⟨a1, T1, h1, k1_1, b1, kc1, X1, e1, E1, hS1, hk1, -, -, gE1, gC1, gV1, gA1, -, -, IB1, Lt1, st1⟩ := ldcSVL (Z := Z) (s := (s.setVm s.vm)) (vm0 := s.vm) X0 hx hZ hown (ow60 hw) (own_wS hw) e0 ((State.WarmedH.refl (s.setVm s.vm)).since 0) (Nat.zero_le _) (Fr.nil _) hkeep I1 (by decide) hhld hcw (vs := own_lit1) (z := (11 : Int32)) own_lit1_ok (by decide) own_lit1_len (g := (mkF m 0 #[.val (.int y0)] [])) rfl (hb hby d9_0) (n := 44) (by decide) (by decide) (by decide) (by decide)
  have hM1 := own_sm hS1 hk1
  obtain ⟨X1, hS, hZ, hown⟩ := rebS hS (Nat.le_refl _) X1 hM1 E1.1 hZ hown
  have K1 : Keep h0 h1 [] := (Keep.refl h0 []).ext E1
  refine own_goW (T' := T1) (f' := (mkF m 7 #[.val (.int y0)] [(.int (y0 - (2004 : Int32))), (.ref a1)])) (fun _ k => st1 _ (XS.iloadN X1.here hx rfl (hb hby d9_2) rfl (XS.sipush X1.here hx rfl (hb hby d9_3) (XS.isub X1.here hx rfl (hb hby d9_6) rfl k)))) ?_
  obtain ⟨cq2, kq2, q2a, q2b, q2c⟩ := isOf hZ e1 gE1
  obtain ⟨_, _, ⟨T2, L2, k2, n2⟩, -, X2, ⟨Lc2, hQ2, l2, y2, z2⟩, st2⟩ := X1.virtualBack hx (y := mn4) (z := mn4) hown (mvT hZ (ow20 hw)) (mvT hZ (ow21 hw)) (notFace_of_selects (args := #[]) (mvT hZ (ow23 hw))) (mvT hZ (ow23 hw)) (mvT hZ (ow22 hw)) (by decide) (backOf (W := 0) (rm3 l Z a0 hw [] a1 (y0 - (2004 : Int32)) cs fm b1 kc1 (11 : Int32) own_lit1 h1 n0 (Nat.le_trans Z0 E1.1) (S_cs.ext E1) hcs (S_fm.ext E1) hfm gE1 gC1 gV1 gA1 own_lit1_int hlo hhi) hZ (ow24 hw) (ow13 hw) (by decide) (by decide)) q2a q2c (g := (mkF m 7 #[.val (.int y0)] [(.int (y0 - (2004 : Int32))), (.ref a1)])) rfl (by rw [hml]; rfl) (Steps.refl _) (argsL := [(.int (y0 - (2004 : Int32)))]) (rest := []) (lenOf pd2 rfl) rfl (by show 2 * 0 + _ ≤ _; exact Nat.le_of_eq rfl) (hb hby d9_7) (fun _ _ => ⟨rfl, e1, (by decide : 2 + 0 ≤ _), (by decide : 48 + 0 ≤ _)⟩)
  dsimp only [Pt.U, Pt.locs, Pt.cells, Pt.slots] at X2 l2 y2 z2 st2 hQ2
  subst l2 y2 z2
  obtain ⟨rfl, N2q, hh2⟩ := hQ2
  have N2 := Fr.app N0 N2q
  refine own_goW (T' := T2) (f' := (mkF m 10 #[.val (.int y0)] [(.int (nar .char (own_ch own_lit1 (y0 - (2004 : Int32)))))])) (fun _ k => st2.trans k) ?_
  obtain ⟨_, _, ⟨T3, L3, k3, n3⟩, -, X3, ⟨Lc3, hQ3, l3, y3, z3⟩, st3⟩ := Jvm.LawKit.callS X2 hx (y := mn6) hown (mvT hZ (ow45 hw)) (mvT hZ (ow46 hw)) (mvT hZ (ow10 hw)) (mvT hZ (ow47 hw)) (by decide) (backOf (W := 0) (rm8T l Z a0 hw [] (nar .char (own_ch own_lit1 (y0 - (2004 : Int32)))) wN wT wM wB wY wO h1 n0 (Nat.le_trans Z0 E1.1) (S_N.ext E1) (S_T.ext E1) (S_M.ext E1) (S_B.ext E1) (S_Y.ext E1) (S_O.ext E1) hch) hZ (ow47 hw) (ow10 hw) (by decide) (by decide)) (g := (mkF m 10 #[.val (.int y0)] [(.int (nar .char (own_ch own_lit1 (y0 - (2004 : Int32)))))])) rfl (by rw [hml]; rfl) (argsL := [(.int (nar .char (own_ch own_lit1 (y0 - (2004 : Int32)))))]) (rest := []) (lenOf pd1 rfl) rfl (by show 2 * 0 + _ ≤ _; exact Nat.le_of_eq rfl) (hb hby d9_10) (fun _ _ => ⟨rfl, hh2, (by decide : 2 + 0 ≤ _), (by decide : 48 + 0 ≤ _)⟩)
  dsimp only [Pt.U, Pt.locs, Pt.cells, Pt.slots] at X3 l3 y3 z3 st3 hQ3
  subst l3 y3 z3
  obtain ⟨rfl, N3q, hh3⟩ := hQ3
  have N3 := Fr.app N2 N3q
  refine own_goW (T' := T3) (f' := (mkF m 13 #[.val (.int y0)] [(.ref wT)])) (fun _ k => st3 _ k) ?_
  refine own_retW X3 hS (by rw [hh3]; exact (Nat.le_refl _)) (v := some (.ref wT)) (fun h => by rw [Bd.returns] at h; cases h) Bd.notSynchronized (fun fs hr => own_retA X3 hx Bd.returns rfl rfl (hb hby d9_13) hr) ?_ (by decide) (by decide)
  show Q9T Z B y0 cs fm wN wT wM wB wY wO h0 n0 _ T3.heap T3.vm _
  rw [hh3]
  exact ⟨rfl, N3, K1⟩
theorem ef_rm9Y (m : MethodId) (y0 : Int32) : entryFrame m #[(.int y0)] 1 = mkF m 0 #[.val (.int y0)] [] := by first | (simp [entryFrame, mkF, argsToLocals, Value.category]; done) | rfl
def Q9Y (Z : State) (B : State) (y0 : Int32) (cs : Int32) (fm : Value) (wN : Addr) (wT : Addr) (wM : Addr) (wB : Addr) (wY : Addr) (wO : Addr) (h0 : Heap) (n0 : Nat) (v : Option Value) (h : Heap) (vm : Vm) (L : List Loc) : Prop := v = some (.ref wY) ∧ Fr n0 L ∧ Keep h0 h []
set_option maxRecDepth 65536 in
set_option maxHeartbeats 40000000 in
theorem rm9Y (l : Launch) (Z : State) (a0 : Array Value) (hw : ∀ d ∈ tables_1, d.before a0 Z = true) (ws : List Jvm.Cond) (B : State) (y0 : Int32) (cs : Int32) (fm : Value) (wN : Addr) (wT : Addr) (wM : Addr) (wB : Addr) (wY : Addr) (wO : Addr) (h0 : Heap) (n0 : Nat) (Z0 : n0 ≤ h0.size) (S_cs : Sta Z h0 "java/lang/String" "COMPACT_STRINGS" "Z" (.int cs)) (hcs : ¬ (cs = (0 : Int32))) (S_fm : Sta Z h0 "jdk/internal/util/Preconditions" "SIOOBE_FORMATTER" "Ljava/util/function/BiFunction;" fm) (hfm : fm.isRef = true) (S_N : Sta Z h0 "com/example/tuple/tuple/model/Kind" "NUMBER" "Lcom/example/tuple/tuple/model/Kind;" (.ref wN)) (S_T : Sta Z h0 "com/example/tuple/tuple/model/Kind" "TEXT" "Lcom/example/tuple/tuple/model/Kind;" (.ref wT)) (S_M : Sta Z h0 "com/example/tuple/tuple/model/Kind" "TEMPORAL" "Lcom/example/tuple/tuple/model/Kind;" (.ref wM)) (S_B : Sta Z h0 "com/example/tuple/tuple/model/Kind" "BOOLEAN" "Lcom/example/tuple/tuple/model/Kind;" (.ref wB)) (S_Y : Sta Z h0 "com/example/tuple/tuple/model/Kind" "BINARY" "Lcom/example/tuple/tuple/model/Kind;" (.ref wY)) (S_O : Sta Z h0 "com/example/tuple/tuple/model/Kind" "OTHER" "Lcom/example/tuple/tuple/model/Kind;" (.ref wO)) (I0 : IB Z B.vm []) (hk0 : ∀ (b : Addr) (cl : Cell), Z.heap[b]? = some cl → h0[b]? = some cl) (hcw : Jvm.Lit.compactW.before a0 Z = true) (hhld : Jvm.Lit.constHeld Z "com/example/tuple/tuple/model/KindOfSqlTypePinLaw" 21) (hlo : ¬ ((y0 - (2004 : Int32)) < (0 : Int32))) (hhi : (y0 - (2004 : Int32)) < (11 : Int32)) (hch : nar .char (own_ch own_lit1 (y0 - (2004 : Int32))) = (89 : Int32)) :
    MetFree l mn8 (head1 (Jvm.Cond.code mn8 method_3_code 1 (some (.object "com/example/tuple/tuple/model/Kind")) :: ws) ({ frames := 4, cells := 2, slots := 48, locals := 53 } : Room)) (fun a U => a = #[(.int y0)] ∧ Z.Warmed39 U.vm ∧ B.WarmedH U.vm ∧ U.heap = h0) (fun _ _ _ _ _ => True) (fun _ U o U' => ∃ v L, o = .returned v ∧ Q9Y Z B y0 cs fm wN wT wM wB wY wO h0 n0 v U'.heap U'.vm L ∧ ReturnedEndW U o U' L ({ frames := 4, cells := 2, slots := 48, locals := 53 } : Room).cells ({ frames := 4, cells := 2, slots := 48, locals := 53 } : Room).slots) := by
  refine MetFree.of_bodySF (plainFor_of_name pn_1) hisR ?_
  intro p e s m args below meth c s₁ Bd hml0 hP hK
  obtain ⟨rfl, hZ, hB, hh⟩ := hP
  have hx := Bd.exec
  have hby := Bd.bytes
  have hml : c.maxLocals = 1 := hml0
  have hown : s.vm.findClass "com/example/tuple/tuple/model/KindOfSqlTypePinLaw" = some m.cls := findClass_of_methodNamed Bd.named
  have hnm := (name_of_methodNamed Bd.named Bd.method).1
  have X0 : Stand p l e ({ frames := 4, cells := 2, slots := 48, locals := 53 } : Room) (s.setVm s.vm) m #[(.int y0)] below meth c s₁ [] 0 0 := Stand.of_body Bd
  have e0 : s₁.heap = h0 := by rw [← hh, Bd.state]; rfl
  have N0 := Fr.nil n0
  have hS : s.Since s.vm h0.size := (State.WarmedH.refl s).since _
  show own_EndsW p e below s (Q9Y Z B y0 cs fm wN wT wM wB wY wO h0 n0) _ _ s₁ _
  rw [ef_rm9Y m y0]
  have I1 := own_ib I0 hB
  have hkeep : ∀ (b : Addr) (cl : Cell), Z.heap[b]? = some cl → s.heap[b]? = some cl := by rw [hh]; exact hk0
  obtain ⟨a1, T1, h1, k1_1, b1, kc1, X1, e1, E1, hS1, hk1, -, -, gE1, gC1, gV1, gA1, -, -, IB1, Lt1, st1⟩ := ldcSVL (Z := Z) (s := (s.setVm s.vm)) (vm0 := s.vm) X0 hx hZ hown (ow60 hw) (own_wS hw) e0 ((State.WarmedH.refl (s.setVm s.vm)).since 0) (Nat.zero_le _) (Fr.nil _) hkeep I1 (by decide) hhld hcw (vs := own_lit1) (z := (11 : Int32)) own_lit1_ok (by decide) own_lit1_len (g := (mkF m 0 #[.val (.int y0)] [])) rfl (hb hby d9_0) (n := 44) (by decide) (by decide) (by decide) (by decide)
  have hM1 := own_sm hS1 hk1
  obtain ⟨X1, hS, hZ, hown⟩ := rebS hS (Nat.le_refl _) X1 hM1 E1.1 hZ hown
  have K1 : Keep h0 h1 [] := (Keep.refl h0 []).ext E1
  refine own_goW (T' := T1) (f' := (mkF m 7 #[.val (.int y0)] [(.int (y0 - (2004 : Int32))), (.ref a1)])) (fun _ k => st1 _ (XS.iloadN X1.here hx rfl (hb hby d9_2) rfl (XS.sipush X1.here hx rfl (hb hby d9_3) (XS.isub X1.here hx rfl (hb hby d9_6) rfl k)))) ?_
  obtain ⟨cq2, kq2, q2a, q2b, q2c⟩ := isOf hZ e1 gE1
  obtain ⟨_, _, ⟨T2, L2, k2, n2⟩, -, X2, ⟨Lc2, hQ2, l2, y2, z2⟩, st2⟩ := X1.virtualBack hx (y := mn4) (z := mn4) hown (mvT hZ (ow20 hw)) (mvT hZ (ow21 hw)) (notFace_of_selects (args := #[]) (mvT hZ (ow23 hw))) (mvT hZ (ow23 hw)) (mvT hZ (ow22 hw)) (by decide) (backOf (W := 0) (rm3 l Z a0 hw [] a1 (y0 - (2004 : Int32)) cs fm b1 kc1 (11 : Int32) own_lit1 h1 n0 (Nat.le_trans Z0 E1.1) (S_cs.ext E1) hcs (S_fm.ext E1) hfm gE1 gC1 gV1 gA1 own_lit1_int hlo hhi) hZ (ow24 hw) (ow13 hw) (by decide) (by decide)) q2a q2c (g := (mkF m 7 #[.val (.int y0)] [(.int (y0 - (2004 : Int32))), (.ref a1)])) rfl (by rw [hml]; rfl) (Steps.refl _) (argsL := [(.int (y0 - (2004 : Int32)))]) (rest := []) (lenOf pd2 rfl) rfl (by show 2 * 0 + _ ≤ _; exact Nat.le_of_eq rfl) (hb hby d9_7) (fun _ _ => ⟨rfl, e1, (by decide : 2 + 0 ≤ _), (by decide : 48 + 0 ≤ _)⟩)
  dsimp only [Pt.U, Pt.locs, Pt.cells, Pt.slots] at X2 l2 y2 z2 st2 hQ2
  subst l2 y2 z2
  obtain ⟨rfl, N2q, hh2⟩ := hQ2
  have N2 := Fr.app N0 N2q
  refine own_goW (T' := T2) (f' := (mkF m 10 #[.val (.int y0)] [(.int (nar .char (own_ch own_lit1 (y0 - (2004 : Int32)))))])) (fun _ k => st2.trans k) ?_
  obtain ⟨_, _, ⟨T3, L3, k3, n3⟩, -, X3, ⟨Lc3, hQ3, l3, y3, z3⟩, st3⟩ := Jvm.LawKit.callS X2 hx (y := mn6) hown (mvT hZ (ow45 hw)) (mvT hZ (ow46 hw)) (mvT hZ (ow10 hw)) (mvT hZ (ow47 hw)) (by decide) (backOf (W := 0) (rm8Y l Z a0 hw [] (nar .char (own_ch own_lit1 (y0 - (2004 : Int32)))) wN wT wM wB wY wO h1 n0 (Nat.le_trans Z0 E1.1) (S_N.ext E1) (S_T.ext E1) (S_M.ext E1) (S_B.ext E1) (S_Y.ext E1) (S_O.ext E1) hch) hZ (ow47 hw) (ow10 hw) (by decide) (by decide)) (g := (mkF m 10 #[.val (.int y0)] [(.int (nar .char (own_ch own_lit1 (y0 - (2004 : Int32)))))])) rfl (by rw [hml]; rfl) (argsL := [(.int (nar .char (own_ch own_lit1 (y0 - (2004 : Int32)))))]) (rest := []) (lenOf pd1 rfl) rfl (by show 2 * 0 + _ ≤ _; exact Nat.le_of_eq rfl) (hb hby d9_10) (fun _ _ => ⟨rfl, hh2, (by decide : 2 + 0 ≤ _), (by decide : 48 + 0 ≤ _)⟩)
  dsimp only [Pt.U, Pt.locs, Pt.cells, Pt.slots] at X3 l3 y3 z3 st3 hQ3
  subst l3 y3 z3
  obtain ⟨rfl, N3q, hh3⟩ := hQ3
  have N3 := Fr.app N2 N3q
  refine own_goW (T' := T3) (f' := (mkF m 13 #[.val (.int y0)] [(.ref wY)])) (fun _ k => st3 _ k) ?_
  refine own_retW X3 hS (by rw [hh3]; exact (Nat.le_refl _)) (v := some (.ref wY)) (fun h => by rw [Bd.returns] at h; cases h) Bd.notSynchronized (fun fs hr => own_retA X3 hx Bd.returns rfl rfl (hb hby d9_13) hr) ?_ (by decide) (by decide)
  show Q9Y Z B y0 cs fm wN wT wM wB wY wO h0 n0 _ T3.heap T3.vm _
  rw [hh3]
  exact ⟨rfl, N3, K1⟩
theorem pd3 : parseMethodDescriptor "(I)Lcom/example/tuple/tuple/model/Kind;" = some ⟨[.int], some (.object "com/example/tuple/tuple/model/Kind")⟩ := by decide +kernel
theorem ef_rm0 (m : MethodId) (p0 : Int32) (p1 : Int32) : entryFrame m #[(.int p0), (.int p1)] maxLocals = mkF m 0 #[.val (.int p0), .val (.int p1), .unset, .unset, .unset] [] := by first | (simp [entryFrame, mkF, argsToLocals, Value.category, maxLocals]; done) | rfl
def Q0 (Z : State) (B : State) (p0 : Int32) (p1 : Int32) (cs : Int32) (fm : Value) (wN : Addr) (wT : Addr) (wM : Addr) (wB : Addr) (wY : Addr) (wO : Addr) (h0 : Heap) (n0 : Nat) (v : Option Value) (h : Heap) (vm : Vm) (L : List Loc) : Prop := v = some (.int (1 : Int32)) ∧ Fr n0 L
set_option maxRecDepth 65536 in
set_option maxHeartbeats 40000000 in
theorem rm0 (l : Launch) (Z : State) (a0 : Array Value) (hw : ∀ d ∈ tables_1, d.before a0 Z = true) (ws : List Jvm.Cond) (B : State) (p0 : Int32) (p1 : Int32) (cs : Int32) (fm : Value) (wN : Addr) (wT : Addr) (wM : Addr) (wB : Addr) (wY : Addr) (wO : Addr) (h0 : Heap) (n0 : Nat) (Z0 : n0 ≤ h0.size) (S_cs : Sta Z h0 "java/lang/String" "COMPACT_STRINGS" "Z" (.int cs)) (hcs : ¬ (cs = (0 : Int32))) (S_fm : Sta Z h0 "jdk/internal/util/Preconditions" "SIOOBE_FORMATTER" "Ljava/util/function/BiFunction;" fm) (hfm : fm.isRef = true) (S_N : Sta Z h0 "com/example/tuple/tuple/model/Kind" "NUMBER" "Lcom/example/tuple/tuple/model/Kind;" (.ref wN)) (S_T : Sta Z h0 "com/example/tuple/tuple/model/Kind" "TEXT" "Lcom/example/tuple/tuple/model/Kind;" (.ref wT)) (S_M : Sta Z h0 "com/example/tuple/tuple/model/Kind" "TEMPORAL" "Lcom/example/tuple/tuple/model/Kind;" (.ref wM)) (S_B : Sta Z h0 "com/example/tuple/tuple/model/Kind" "BOOLEAN" "Lcom/example/tuple/tuple/model/Kind;" (.ref wB)) (S_Y : Sta Z h0 "com/example/tuple/tuple/model/Kind" "BINARY" "Lcom/example/tuple/tuple/model/Kind;" (.ref wY)) (S_O : Sta Z h0 "com/example/tuple/tuple/model/Kind" "OTHER" "Lcom/example/tuple/tuple/model/Kind;" (.ref wO)) (hcw : Jvm.Lit.compactW.before a0 Z = true) (hh7 : Jvm.Lit.constHeld Z "com/example/tuple/tuple/model/KindOfSqlTypePinLaw" 7) (hh21 : Jvm.Lit.constHeld Z "com/example/tuple/tuple/model/KindOfSqlTypePinLaw" 21) (hZB : Z = B) (hZh : h0 = Z.heap) :
    MetFree l x (head1 (Jvm.Cond.code x code maxLocals ret :: ws) room_1) (fun a U => a = #[(.int p0), (.int p1)] ∧ Z.Warmed39 U.vm ∧ B.WarmedH U.vm ∧ U.heap = h0) (fun _ _ _ _ _ => True) (fun _ U o U' => ∃ v L, o = .returned v ∧ Q0 Z B p0 p1 cs fm wN wT wM wB wY wO h0 n0 v U'.heap U'.vm L ∧ ReturnedEndW U o U' L room_1.cells room_1.slots) := by
  refine MetFree.of_bodySF (plainFor_of_name pn_1) hisR ?_
  intro p e s m args below meth c s₁ Bd hml0 hP hK
  obtain ⟨rfl, hZ, hB, hh⟩ := hP
  have hx := Bd.exec
  have hby := Bd.bytes
  have hml : c.maxLocals = 5 := hml0
  have hown : s.vm.findClass "com/example/tuple/tuple/model/KindOfSqlTypePinLaw" = some m.cls := findClass_of_methodNamed Bd.named
  have hnm := (name_of_methodNamed Bd.named Bd.method).1
  have X0 : Stand p l e room_1 (s.setVm s.vm) m #[(.int p0), (.int p1)] below meth c s₁ [] 0 0 := Stand.of_body Bd
  have e0 : s₁.heap = h0 := by rw [← hh, Bd.state]; rfl
  have N0 := Fr.nil n0
  have hS : s.Since s.vm h0.size := (State.WarmedH.refl s).since _
  show own_EndsW p e below s (Q0 Z B p0 p1 cs fm wN wT wM wB wY wO h0 n0) _ _ s₁ _
  rw [ef_rm0 m p0 p1]
  have I1 : IB Z s.vm [] := own_ib (B := Z) IB.start (hZB.symm ▸ hB)
  refine own_goW (T' := s₁) (f' := (mkF m 4 #[.val (.int p0), .val (.int p1), .val (.int (p1 &&& (3 : Int32))), .unset, .unset] [])) (fun _ k => XS.iloadN X0.here hx rfl (hb hby at_0) rfl (XS.iconst X0.here hx rfl (hb hby at_1) (XS.iand X0.here hx rfl (hb hby at_2) rfl (XS.istoreN X0.here hx rfl (hb hby at_3) rfl (l' := #[.val (.int p0), .val (.int p1), .val (.int (p1 &&& (3 : Int32))), .unset, .unset]) rfl k)))) ?_
  generalize hzm : (p1 &&& (3 : Int32)) = zm
  have rest1 : ∀ (zv : Int32), own_EndsW p e below s (Q0 Z B p0 p1 cs fm wN wT wM wB wY wO h0 n0) room_1.cells room_1.slots s₁ (mkF m 65 #[.val (.int p0), .val (.int p1), .val (.int zm), .val (.int zv), .unset] []) := by
    intro zv
    refine own_goW (T' := s₁) (f' := (mkF m 68 #[.val (.int p0), .val (.int p1), .val (.int zm), .val (.int zv), .unset] [(.int (-16 : Int32)), (.int zv)])) (fun _ k => XS.iloadN X0.here hx rfl (hb hby at_65) rfl (XS.bipush X0.here hx rfl (hb hby at_66) k)) ?_
    by_cases hc2 : zv < (-16 : Int32)
    · refine own_goW (T' := s₁) (f' := (mkF m 89 #[.val (.int p0), .val (.int p1), .val (.int zm), .val (.int zv), .unset] [(.int (91 : Int32)), (.int zv)])) (fun _ k => XS.icmpYes X0.here hx rfl (pc0 := 68) (pc' := 86) rfl (hb hby at_68) rfl (tlt hc2).1 (by decide) (by decide) (XS.iloadN X0.here hx rfl (hb hby at_86) rfl (XS.bipush X0.here hx rfl (hb hby at_87) k))) ?_
      by_cases hc3 : zv < (91 : Int32)
      · refine own_goW (T' := s₁) (f' := (mkF m 110 #[.val (.int p0), .val (.int p1), .val (.int zm), .val (.int zv), .unset] [(.int (2004 : Int32)), (.int zv)])) (fun _ k => XS.icmpYes X0.here hx rfl (pc0 := 89) (pc' := 106) rfl (hb hby at_89) rfl (tlt hc3).1 (by decide) (by decide) (XS.iloadN X0.here hx rfl (hb hby at_106) rfl (XS.sipush X0.here hx rfl (hb hby at_107) k))) ?_
        by_cases hc4 : zv < (2004 : Int32)
        · refine own_goW (T' := s₁) (f' := (mkF m 129 #[.val (.int p0), .val (.int p1), .val (.int zm), .val (.int zv), .unset] [])) (fun _ k => XS.icmpYes X0.here hx rfl (pc0 := 110) (pc' := 129) rfl (hb hby at_110) rfl (tlt hc4).1 (by decide) (by decide) k) ?_
          have hdf5 : lookupswitch.offset [((-16), 241), ((-15), 241), ((-9), 241), ((-7), 253), ((-6), 235), ((-5), 235), ((-4), 259), ((-3), 259), ((-2), 259), ((-1), 241), (1, 241), (2, 235), (3, 235), (4, 235), (5, 235), (6, 235), (7, 235), (8, 235), (12, 241), (16, 253), (91, 247), (92, 247), (93, 247), (2004, 259), (2005, 241), (2011, 241), (2013, 247), (2014, 247)] 265 zv.toInt = 265 := own_dflt (by
            simp only [own_ltI] at hc2 hc3 hc4
            have e1 : (-16 : Int32).toInt = -16 := rfl
            have e2 : (16 : Int32).toInt = 16 := rfl
            have e3 : (91 : Int32).toInt = 91 := rfl
            have e4 : (93 : Int32).toInt = 93 := rfl
            have e5 : (2004 : Int32).toInt = 2004 := rfl
            have e6 : (2014 : Int32).toInt = 2014 := rfl
            omega)
          obtain ⟨T6, X6, e6, st6⟩ := getS2 X0 hx hZ hown (host := "") (Or.inl (ow1 hw)) Via.refl e0 S_O (g := (mkF m 129 #[.val (.int p0), .val (.int p1), .val (.int zm), .val (.int zv), .unset] [])) rfl (hb hby at_129)
          refine own_goW (T' := T6) (f' := (mkF m 135 #[.val (.int p0), .val (.int p1), .val (.int zm), .val (.int zv), .val (.ref wO)] [(.int zv)])) (fun _ k => st6 _ (XS.astore X6.here hx rfl (hb hby at_132) rfl rfl (l' := #[.val (.int p0), .val (.int p1), .val (.int zm), .val (.int zv), .val (.ref wO)]) rfl (XS.iloadN X6.here hx rfl (hb hby at_134) rfl k))) ?_
          obtain ⟨_, _, ⟨T7, L7, k7, n7⟩, -, X7, ⟨Lc7, hQ7, l7, y7, z7⟩, st7⟩ := Jvm.LawKit.callS X6 hx (y := mn5) hown (mvT hZ (ow4 hw)) (mvT hZ (ow5 hw)) (mvT hZ (ow2 hw)) (mvT hZ (ow6 hw)) (by decide) (backOf (W := 0) (rm1O l Z a0 hw [] zv wN wT wM wB wY wO h0 n0 Z0 S_N S_T S_M S_B S_Y S_O hdf5) hZ (ow6 hw) (ow2 hw) (by decide) (by decide)) (g := (mkF m 135 #[.val (.int p0), .val (.int p1), .val (.int zm), .val (.int zv), .val (.ref wO)] [(.int zv)])) rfl (by rw [hml]; rfl) (argsL := [(.int zv)]) (rest := []) (lenOf pd3 rfl) rfl (by show 2 * 0 + _ ≤ _; exact Nat.le_of_eq rfl) (hb hby at_135) (fun _ _ => ⟨rfl, e6, (by decide : 0 + 0 ≤ _), (by decide : 0 + 0 ≤ _)⟩)
          dsimp only [Pt.U, Pt.locs, Pt.cells, Pt.slots] at X7 l7 y7 z7 st7 hQ7
          subst l7 y7 z7
          obtain ⟨rfl, N7q, hh7⟩ := hQ7
          have N7 := Fr.app N0 N7q
          refine own_goW (T' := T7) (f' := (mkF m 148 #[.val (.int p0), .val (.int p1), .val (.int zm), .val (.int zv), .val (.ref wO)] [(.int (1 : Int32))])) (fun _ k => st7 _ (XS.aload X7.here hx rfl (hb hby at_138) rfl rfl (Jvm.RoadKit.acmp (g := (mkF m 140 #[.val (.int p0), .val (.int p1), .val (.int zm), .val (.int zv), .val (.ref wO)] [(.ref wO), (.ref wO)])) X7 hx rfl rfl rfl (pc0 := 140) (pc' := 143) (same := true) rfl (hb hby at_140) rfl (decide_eq_true rfl) (by decide) (by decide) (XS.iconst X7.here hx rfl (hb hby at_143) (XS.goto X7.here hx rfl (pc0 := 144) (pc' := 148) rfl (hb hby at_144) (by decide) (by decide) k))))) ?_
          refine own_retW X7 hS (by rw [hh7]; exact (Nat.le_refl _)) (v := some (.int (1 : Int32))) (fun h => by rw [Bd.returns] at h; cases h) Bd.notSynchronized (fun fs hr => retN X7 hx (t := .boolean) Bd.returns (by simp) (hb hby at_148) hr) ?_ (by decide) (by decide)
          show Q0 Z B p0 p1 cs fm wN wT wM wB wY wO h0 n0 _ T7.heap T7.vm _
          exact ⟨rfl, N7⟩
        · refine own_goW (T' := s₁) (f' := (mkF m 117 #[.val (.int p0), .val (.int p1), .val (.int zm), .val (.int zv), .unset] [(.int (2014 : Int32)), (.int zv)])) (fun _ k => XS.icmpNo X0.here hx rfl (hb hby at_110) rfl (flt hc4).1 (XS.iloadN X0.here hx rfl (hb hby at_113) rfl (XS.sipush X0.here hx rfl (hb hby at_114) k))) ?_
          by_cases hc8 : (2014 : Int32) < zv
          · refine own_goW (T' := s₁) (f' := (mkF m 129 #[.val (.int p0), .val (.int p1), .val (.int zm), .val (.int zv), .unset] [])) (fun _ k => XS.icmpYes X0.here hx rfl (pc0 := 117) (pc' := 129) rfl (hb hby at_117) rfl (tlt hc8).2.2.1 (by decide) (by decide) k) ?_
            have hdf9 : lookupswitch.offset [((-16), 241), ((-15), 241), ((-9), 241), ((-7), 253), ((-6), 235), ((-5), 235), ((-4), 259), ((-3), 259), ((-2), 259), ((-1), 241), (1, 241), (2, 235), (3, 235), (4, 235), (5, 235), (6, 235), (7, 235), (8, 235), (12, 241), (16, 253), (91, 247), (92, 247), (93, 247), (2004, 259), (2005, 241), (2011, 241), (2013, 247), (2014, 247)] 265 zv.toInt = 265 := own_dflt (by
              simp only [own_ltI] at hc2 hc3 hc4 hc8
              have e1 : (-16 : Int32).toInt = -16 := rfl
              have e2 : (16 : Int32).toInt = 16 := rfl
              have e3 : (91 : Int32).toInt = 91 := rfl
              have e4 : (93 : Int32).toInt = 93 := rfl
              have e5 : (2004 : Int32).toInt = 2004 := rfl
              have e6 : (2014 : Int32).toInt = 2014 := rfl
              omega)
            obtain ⟨T10, X10, e10, st10⟩ := getS2 X0 hx hZ hown (host := "") (Or.inl (ow1 hw)) Via.refl e0 S_O (g := (mkF m 129 #[.val (.int p0), .val (.int p1), .val (.int zm), .val (.int zv), .unset] [])) rfl (hb hby at_129)
            refine own_goW (T' := T10) (f' := (mkF m 135 #[.val (.int p0), .val (.int p1), .val (.int zm), .val (.int zv), .val (.ref wO)] [(.int zv)])) (fun _ k => st10 _ (XS.astore X10.here hx rfl (hb hby at_132) rfl rfl (l' := #[.val (.int p0), .val (.int p1), .val (.int zm), .val (.int zv), .val (.ref wO)]) rfl (XS.iloadN X10.here hx rfl (hb hby at_134) rfl k))) ?_
            obtain ⟨_, _, ⟨T11, L11, k11, n11⟩, -, X11, ⟨Lc11, hQ11, l11, y11, z11⟩, st11⟩ := Jvm.LawKit.callS X10 hx (y := mn5) hown (mvT hZ (ow4 hw)) (mvT hZ (ow5 hw)) (mvT hZ (ow2 hw)) (mvT hZ (ow6 hw)) (by decide) (backOf (W := 0) (rm1O l Z a0 hw [] zv wN wT wM wB wY wO h0 n0 Z0 S_N S_T S_M S_B S_Y S_O hdf9) hZ (ow6 hw) (ow2 hw) (by decide) (by decide)) (g := (mkF m 135 #[.val (.int p0), .val (.int p1), .val (.int zm), .val (.int zv), .val (.ref wO)] [(.int zv)])) rfl (by rw [hml]; rfl) (argsL := [(.int zv)]) (rest := []) (lenOf pd3 rfl) rfl (by show 2 * 0 + _ ≤ _; exact Nat.le_of_eq rfl) (hb hby at_135) (fun _ _ => ⟨rfl, e10, (by decide : 0 + 0 ≤ _), (by decide : 0 + 0 ≤ _)⟩)
            dsimp only [Pt.U, Pt.locs, Pt.cells, Pt.slots] at X11 l11 y11 z11 st11 hQ11
            subst l11 y11 z11
            obtain ⟨rfl, N11q, hh11⟩ := hQ11
            have N11 := Fr.app N0 N11q
            refine own_goW (T' := T11) (f' := (mkF m 148 #[.val (.int p0), .val (.int p1), .val (.int zm), .val (.int zv), .val (.ref wO)] [(.int (1 : Int32))])) (fun _ k => st11 _ (XS.aload X11.here hx rfl (hb hby at_138) rfl rfl (Jvm.RoadKit.acmp (g := (mkF m 140 #[.val (.int p0), .val (.int p1), .val (.int zm), .val (.int zv), .val (.ref wO)] [(.ref wO), (.ref wO)])) X11 hx rfl rfl rfl (pc0 := 140) (pc' := 143) (same := true) rfl (hb hby at_140) rfl (decide_eq_true rfl) (by decide) (by decide) (XS.iconst X11.here hx rfl (hb hby at_143) (XS.goto X11.here hx rfl (pc0 := 144) (pc' := 148) rfl (hb hby at_144) (by decide) (by decide) k))))) ?_
            refine own_retW X11 hS (by rw [hh11]; exact (Nat.le_refl _)) (v := some (.int (1 : Int32))) (fun h => by rw [Bd.returns] at h; cases h) Bd.notSynchronized (fun fs hr => retN X11 hx (t := .boolean) Bd.returns (by simp) (hb hby at_148) hr) ?_ (by decide) (by decide)
            show Q0 Z B p0 p1 cs fm wN wT wM wB wY wO h0 n0 _ T11.heap T11.vm _
            exact ⟨rfl, N11⟩
          · refine own_goW (T' := s₁) (f' := (mkF m 120 #[.val (.int p0), .val (.int p1), .val (.int zm), .val (.int zv), .unset] [])) (fun _ k => XS.icmpNo X0.here hx rfl (hb hby at_117) rfl (flt hc8).2.2.1 k) ?_
            rcases own_r3 hc4 hc8 with rfl | rfl | rfl | rfl | rfl | rfl | rfl | rfl | rfl | rfl | rfl
            · refine own_goW (T' := s₁) (f' := (mkF m 121 #[.val (.int p0), .val (.int p1), .val (.int zm), .val (.int (2004 : Int32)), .unset] [(.int (2004 : Int32))])) (fun _ k => XS.iloadN X0.here hx rfl (hb hby at_120) rfl k) ?_
              obtain ⟨_, _, ⟨T12, L12, k12, n12⟩, -, X12, hS12, hgr12, ⟨Lc12, hQ12, l12, y12, z12⟩, st12⟩ := callSS X0 hx (y := mn8) hown (mvT hZ (ow57 hw)) (mvT hZ (ow58 hw)) (mvT hZ (ow10 hw)) (mvT hZ (ow59 hw)) (by decide) (own_backS (W := 0) (rm9Y l Z a0 hw [] (s.setVm s.vm) (2004 : Int32) cs fm wN wT wM wB wY wO h0 n0 Z0 S_cs hcs S_fm hfm S_N S_T S_M S_B S_Y S_O I1 (fun _ _ q => by rw [hZh]; exact q) hcw hh21 (by decide) (by decide) (by decide +kernel)) hZ (ow59 hw) (ow10 hw) (by decide) (by decide)) (g := (mkF m 121 #[.val (.int p0), .val (.int p1), .val (.int zm), .val (.int (2004 : Int32)), .unset] [(.int (2004 : Int32))])) rfl (by rw [hml]; rfl) (argsL := [(.int (2004 : Int32))]) (rest := []) (lenOf pd3 rfl) rfl (by show 2 * 0 + _ ≤ _; exact Nat.le_of_eq rfl) (hb hby at_121) (fun _ _ => ⟨rfl, e0, (by decide : 0 + 2 ≤ _), (by decide : 0 + 48 ≤ _)⟩)
              dsimp only [Pt.U, Pt.locs, Pt.cells, Pt.slots] at X12 l12 y12 z12 st12 hQ12 hS12 hgr12
              subst l12 y12 z12
              have hM12 := hS12
              obtain ⟨X12, hS, hZ, hown⟩ := rebS hS (by rw [e0]; exact (Nat.le_refl _) : _ ≤ s₁.heap.size) X12 hM12 hgr12 hZ hown
              obtain ⟨rfl, N12q, K12⟩ := hQ12
              have N12 := Fr.app N0 N12q
              have KK12 : Keep h0 T12.heap [] := Keep.trans (Keep.refl h0 []) K12 all0
              refine own_goW (T' := T12) (f' := (mkF m 135 #[.val (.int p0), .val (.int p1), .val (.int zm), .val (.int (2004 : Int32)), .val (.ref wY)] [(.int (2004 : Int32))])) (fun _ k => st12.trans (XS.astore X12.here hx rfl (hb hby at_124) rfl rfl (l' := #[.val (.int p0), .val (.int p1), .val (.int zm), .val (.int (2004 : Int32)), .val (.ref wY)]) rfl (XS.goto X12.here hx rfl (pc0 := 126) (pc' := 134) rfl (hb hby at_126) (by decide) (by decide) (XS.iloadN X12.here hx rfl (hb hby at_134) rfl k)))) ?_
              obtain ⟨_, _, ⟨T13, L13, k13, n13⟩, -, X13, ⟨Lc13, hQ13, l13, y13, z13⟩, st13⟩ := Jvm.LawKit.callS X12 hx (y := mn5) hown (mvT hZ (ow4 hw)) (mvT hZ (ow5 hw)) (mvT hZ (ow2 hw)) (mvT hZ (ow6 hw)) (by decide) (backOf (W := 0) (rm1Y l Z a0 hw [] (2004 : Int32) wN wT wM wB wY wO T12.heap n0 (Nat.le_trans Z0 K12.1) (own_sta_keep S_N K12 own_ws0) (own_sta_keep S_T K12 own_ws0) (own_sta_keep S_M K12 own_ws0) (own_sta_keep S_B K12 own_ws0) (own_sta_keep S_Y K12 own_ws0) (own_sta_keep S_O K12 own_ws0) (by decide +kernel)) hZ (ow6 hw) (ow2 hw) (by decide) (by decide)) (g := (mkF m 135 #[.val (.int p0), .val (.int p1), .val (.int zm), .val (.int (2004 : Int32)), .val (.ref wY)] [(.int (2004 : Int32))])) rfl (by rw [hml]; rfl) (argsL := [(.int (2004 : Int32))]) (rest := []) (lenOf pd3 rfl) rfl (by show 2 * 0 + _ ≤ _; exact Nat.le_of_eq rfl) (hb hby at_135) (fun _ _ => ⟨rfl, rfl, (by decide : 2 + 0 ≤ _), (by decide : 48 + 0 ≤ _)⟩)
              dsimp only [Pt.U, Pt.locs, Pt.cells, Pt.slots] at X13 l13 y13 z13 st13 hQ13
              subst l13 y13 z13
              obtain ⟨rfl, N13q, hh13⟩ := hQ13
              have N13 := Fr.app N12 N13q
              refine own_goW (T' := T13) (f' := (mkF m 148 #[.val (.int p0), .val (.int p1), .val (.int zm), .val (.int (2004 : Int32)), .val (.ref wY)] [(.int (1 : Int32))])) (fun _ k => st13 _ (XS.aload X13.here hx rfl (hb hby at_138) rfl rfl (Jvm.RoadKit.acmp (g := (mkF m 140 #[.val (.int p0), .val (.int p1), .val (.int zm), .val (.int (2004 : Int32)), .val (.ref wY)] [(.ref wY), (.ref wY)])) X13 hx rfl rfl rfl (pc0 := 140) (pc' := 143) (same := true) rfl (hb hby at_140) rfl (decide_eq_true rfl) (by decide) (by decide) (XS.iconst X13.here hx rfl (hb hby at_143) (XS.goto X13.here hx rfl (pc0 := 144) (pc' := 148) rfl (hb hby at_144) (by decide) (by decide) k))))) ?_
              refine own_retW X13 hS (by rw [hh13]; exact (Nat.le_refl _)) (v := some (.int (1 : Int32))) (fun h => by rw [Bd.returns] at h; cases h) Bd.notSynchronized (fun fs hr => retN X13 hx (t := .boolean) Bd.returns (by simp) (hb hby at_148) hr) ?_ (by decide) (by decide)
              show Q0 Z B p0 p1 cs fm wN wT wM wB wY wO h0 n0 _ T13.heap T13.vm _
              exact ⟨rfl, N13⟩
            · refine own_goW (T' := s₁) (f' := (mkF m 121 #[.val (.int p0), .val (.int p1), .val (.int zm), .val (.int (2005 : Int32)), .unset] [(.int (2005 : Int32))])) (fun _ k => XS.iloadN X0.here hx rfl (hb hby at_120) rfl k) ?_
              obtain ⟨_, _, ⟨T14, L14, k14, n14⟩, -, X14, hS14, hgr14, ⟨Lc14, hQ14, l14, y14, z14⟩, st14⟩ := callSS X0 hx (y := mn8) hown (mvT hZ (ow57 hw)) (mvT hZ (ow58 hw)) (mvT hZ (ow10 hw)) (mvT hZ (ow59 hw)) (by decide) (own_backS (W := 0) (rm9T l Z a0 hw [] (s.setVm s.vm) (2005 : Int32) cs fm wN wT wM wB wY wO h0 n0 Z0 S_cs hcs S_fm hfm S_N S_T S_M S_B S_Y S_O I1 (fun _ _ q => by rw [hZh]; exact q) hcw hh21 (by decide) (by decide) (by decide +kernel)) hZ (ow59 hw) (ow10 hw) (by decide) (by decide)) (g := (mkF m 121 #[.val (.int p0), .val (.int p1), .val (.int zm), .val (.int (2005 : Int32)), .unset] [(.int (2005 : Int32))])) rfl (by rw [hml]; rfl) (argsL := [(.int (2005 : Int32))]) (rest := []) (lenOf pd3 rfl) rfl (by show 2 * 0 + _ ≤ _; exact Nat.le_of_eq rfl) (hb hby at_121) (fun _ _ => ⟨rfl, e0, (by decide : 0 + 2 ≤ _), (by decide : 0 + 48 ≤ _)⟩)
              dsimp only [Pt.U, Pt.locs, Pt.cells, Pt.slots] at X14 l14 y14 z14 st14 hQ14 hS14 hgr14
              subst l14 y14 z14
              have hM14 := hS14
              obtain ⟨X14, hS, hZ, hown⟩ := rebS hS (by rw [e0]; exact (Nat.le_refl _) : _ ≤ s₁.heap.size) X14 hM14 hgr14 hZ hown
              obtain ⟨rfl, N14q, K14⟩ := hQ14
              have N14 := Fr.app N0 N14q
              have KK14 : Keep h0 T14.heap [] := Keep.trans (Keep.refl h0 []) K14 all0
              refine own_goW (T' := T14) (f' := (mkF m 135 #[.val (.int p0), .val (.int p1), .val (.int zm), .val (.int (2005 : Int32)), .val (.ref wT)] [(.int (2005 : Int32))])) (fun _ k => st14.trans (XS.astore X14.here hx rfl (hb hby at_124) rfl rfl (l' := #[.val (.int p0), .val (.int p1), .val (.int zm), .val (.int (2005 : Int32)), .val (.ref wT)]) rfl (XS.goto X14.here hx rfl (pc0 := 126) (pc' := 134) rfl (hb hby at_126) (by decide) (by decide) (XS.iloadN X14.here hx rfl (hb hby at_134) rfl k)))) ?_
              obtain ⟨_, _, ⟨T15, L15, k15, n15⟩, -, X15, ⟨Lc15, hQ15, l15, y15, z15⟩, st15⟩ := Jvm.LawKit.callS X14 hx (y := mn5) hown (mvT hZ (ow4 hw)) (mvT hZ (ow5 hw)) (mvT hZ (ow2 hw)) (mvT hZ (ow6 hw)) (by decide) (backOf (W := 0) (rm1T l Z a0 hw [] (2005 : Int32) wN wT wM wB wY wO T14.heap n0 (Nat.le_trans Z0 K14.1) (own_sta_keep S_N K14 own_ws0) (own_sta_keep S_T K14 own_ws0) (own_sta_keep S_M K14 own_ws0) (own_sta_keep S_B K14 own_ws0) (own_sta_keep S_Y K14 own_ws0) (own_sta_keep S_O K14 own_ws0) (by decide +kernel)) hZ (ow6 hw) (ow2 hw) (by decide) (by decide)) (g := (mkF m 135 #[.val (.int p0), .val (.int p1), .val (.int zm), .val (.int (2005 : Int32)), .val (.ref wT)] [(.int (2005 : Int32))])) rfl (by rw [hml]; rfl) (argsL := [(.int (2005 : Int32))]) (rest := []) (lenOf pd3 rfl) rfl (by show 2 * 0 + _ ≤ _; exact Nat.le_of_eq rfl) (hb hby at_135) (fun _ _ => ⟨rfl, rfl, (by decide : 2 + 0 ≤ _), (by decide : 48 + 0 ≤ _)⟩)
              dsimp only [Pt.U, Pt.locs, Pt.cells, Pt.slots] at X15 l15 y15 z15 st15 hQ15
              subst l15 y15 z15
              obtain ⟨rfl, N15q, hh15⟩ := hQ15
              have N15 := Fr.app N14 N15q
              refine own_goW (T' := T15) (f' := (mkF m 148 #[.val (.int p0), .val (.int p1), .val (.int zm), .val (.int (2005 : Int32)), .val (.ref wT)] [(.int (1 : Int32))])) (fun _ k => st15 _ (XS.aload X15.here hx rfl (hb hby at_138) rfl rfl (Jvm.RoadKit.acmp (g := (mkF m 140 #[.val (.int p0), .val (.int p1), .val (.int zm), .val (.int (2005 : Int32)), .val (.ref wT)] [(.ref wT), (.ref wT)])) X15 hx rfl rfl rfl (pc0 := 140) (pc' := 143) (same := true) rfl (hb hby at_140) rfl (decide_eq_true rfl) (by decide) (by decide) (XS.iconst X15.here hx rfl (hb hby at_143) (XS.goto X15.here hx rfl (pc0 := 144) (pc' := 148) rfl (hb hby at_144) (by decide) (by decide) k))))) ?_
              refine own_retW X15 hS (by rw [hh15]; exact (Nat.le_refl _)) (v := some (.int (1 : Int32))) (fun h => by rw [Bd.returns] at h; cases h) Bd.notSynchronized (fun fs hr => retN X15 hx (t := .boolean) Bd.returns (by simp) (hb hby at_148) hr) ?_ (by decide) (by decide)
              show Q0 Z B p0 p1 cs fm wN wT wM wB wY wO h0 n0 _ T15.heap T15.vm _
              exact ⟨rfl, N15⟩
            · refine own_goW (T' := s₁) (f' := (mkF m 121 #[.val (.int p0), .val (.int p1), .val (.int zm), .val (.int (2006 : Int32)), .unset] [(.int (2006 : Int32))])) (fun _ k => XS.iloadN X0.here hx rfl (hb hby at_120) rfl k) ?_
              obtain ⟨_, _, ⟨T16, L16, k16, n16⟩, -, X16, hS16, hgr16, ⟨Lc16, hQ16, l16, y16, z16⟩, st16⟩ := callSS X0 hx (y := mn8) hown (mvT hZ (ow57 hw)) (mvT hZ (ow58 hw)) (mvT hZ (ow10 hw)) (mvT hZ (ow59 hw)) (by decide) (own_backS (W := 0) (rm9O l Z a0 hw [] (s.setVm s.vm) (2006 : Int32) cs fm wN wT wM wB wY wO h0 n0 Z0 S_cs hcs S_fm hfm S_N S_T S_M S_B S_Y S_O I1 (fun _ _ q => by rw [hZh]; exact q) hcw hh21 (by decide) (by decide) (by decide +kernel)) hZ (ow59 hw) (ow10 hw) (by decide) (by decide)) (g := (mkF m 121 #[.val (.int p0), .val (.int p1), .val (.int zm), .val (.int (2006 : Int32)), .unset] [(.int (2006 : Int32))])) rfl (by rw [hml]; rfl) (argsL := [(.int (2006 : Int32))]) (rest := []) (lenOf pd3 rfl) rfl (by show 2 * 0 + _ ≤ _; exact Nat.le_of_eq rfl) (hb hby at_121) (fun _ _ => ⟨rfl, e0, (by decide : 0 + 2 ≤ _), (by decide : 0 + 48 ≤ _)⟩)
              dsimp only [Pt.U, Pt.locs, Pt.cells, Pt.slots] at X16 l16 y16 z16 st16 hQ16 hS16 hgr16
              subst l16 y16 z16
              have hM16 := hS16
              obtain ⟨X16, hS, hZ, hown⟩ := rebS hS (by rw [e0]; exact (Nat.le_refl _) : _ ≤ s₁.heap.size) X16 hM16 hgr16 hZ hown
              obtain ⟨rfl, N16q, K16⟩ := hQ16
              have N16 := Fr.app N0 N16q
              have KK16 : Keep h0 T16.heap [] := Keep.trans (Keep.refl h0 []) K16 all0
              refine own_goW (T' := T16) (f' := (mkF m 135 #[.val (.int p0), .val (.int p1), .val (.int zm), .val (.int (2006 : Int32)), .val (.ref wO)] [(.int (2006 : Int32))])) (fun _ k => st16.trans (XS.astore X16.here hx rfl (hb hby at_124) rfl rfl (l' := #[.val (.int p0), .val (.int p1), .val (.int zm), .val (.int (2006 : Int32)), .val (.ref wO)]) rfl (XS.goto X16.here hx rfl (pc0 := 126) (pc' := 134) rfl (hb hby at_126) (by decide) (by decide) (XS.iloadN X16.here hx rfl (hb hby at_134) rfl k)))) ?_
              obtain ⟨_, _, ⟨T17, L17, k17, n17⟩, -, X17, ⟨Lc17, hQ17, l17, y17, z17⟩, st17⟩ := Jvm.LawKit.callS X16 hx (y := mn5) hown (mvT hZ (ow4 hw)) (mvT hZ (ow5 hw)) (mvT hZ (ow2 hw)) (mvT hZ (ow6 hw)) (by decide) (backOf (W := 0) (rm1O l Z a0 hw [] (2006 : Int32) wN wT wM wB wY wO T16.heap n0 (Nat.le_trans Z0 K16.1) (own_sta_keep S_N K16 own_ws0) (own_sta_keep S_T K16 own_ws0) (own_sta_keep S_M K16 own_ws0) (own_sta_keep S_B K16 own_ws0) (own_sta_keep S_Y K16 own_ws0) (own_sta_keep S_O K16 own_ws0) (by decide +kernel)) hZ (ow6 hw) (ow2 hw) (by decide) (by decide)) (g := (mkF m 135 #[.val (.int p0), .val (.int p1), .val (.int zm), .val (.int (2006 : Int32)), .val (.ref wO)] [(.int (2006 : Int32))])) rfl (by rw [hml]; rfl) (argsL := [(.int (2006 : Int32))]) (rest := []) (lenOf pd3 rfl) rfl (by show 2 * 0 + _ ≤ _; exact Nat.le_of_eq rfl) (hb hby at_135) (fun _ _ => ⟨rfl, rfl, (by decide : 2 + 0 ≤ _), (by decide : 48 + 0 ≤ _)⟩)
              dsimp only [Pt.U, Pt.locs, Pt.cells, Pt.slots] at X17 l17 y17 z17 st17 hQ17
              subst l17 y17 z17
              obtain ⟨rfl, N17q, hh17⟩ := hQ17
              have N17 := Fr.app N16 N17q
              refine own_goW (T' := T17) (f' := (mkF m 148 #[.val (.int p0), .val (.int p1), .val (.int zm), .val (.int (2006 : Int32)), .val (.ref wO)] [(.int (1 : Int32))])) (fun _ k => st17 _ (XS.aload X17.here hx rfl (hb hby at_138) rfl rfl (Jvm.RoadKit.acmp (g := (mkF m 140 #[.val (.int p0), .val (.int p1), .val (.int zm), .val (.int (2006 : Int32)), .val (.ref wO)] [(.ref wO), (.ref wO)])) X17 hx rfl rfl rfl (pc0 := 140) (pc' := 143) (same := true) rfl (hb hby at_140) rfl (decide_eq_true rfl) (by decide) (by decide) (XS.iconst X17.here hx rfl (hb hby at_143) (XS.goto X17.here hx rfl (pc0 := 144) (pc' := 148) rfl (hb hby at_144) (by decide) (by decide) k))))) ?_
              refine own_retW X17 hS (by rw [hh17]; exact (Nat.le_refl _)) (v := some (.int (1 : Int32))) (fun h => by rw [Bd.returns] at h; cases h) Bd.notSynchronized (fun fs hr => retN X17 hx (t := .boolean) Bd.returns (by simp) (hb hby at_148) hr) ?_ (by decide) (by decide)
              show Q0 Z B p0 p1 cs fm wN wT wM wB wY wO h0 n0 _ T17.heap T17.vm _
              exact ⟨rfl, N17⟩
            · refine own_goW (T' := s₁) (f' := (mkF m 121 #[.val (.int p0), .val (.int p1), .val (.int zm), .val (.int (2007 : Int32)), .unset] [(.int (2007 : Int32))])) (fun _ k => XS.iloadN X0.here hx rfl (hb hby at_120) rfl k) ?_
              obtain ⟨_, _, ⟨T18, L18, k18, n18⟩, -, X18, hS18, hgr18, ⟨Lc18, hQ18, l18, y18, z18⟩, st18⟩ := callSS X0 hx (y := mn8) hown (mvT hZ (ow57 hw)) (mvT hZ (ow58 hw)) (mvT hZ (ow10 hw)) (mvT hZ (ow59 hw)) (by decide) (own_backS (W := 0) (rm9O l Z a0 hw [] (s.setVm s.vm) (2007 : Int32) cs fm wN wT wM wB wY wO h0 n0 Z0 S_cs hcs S_fm hfm S_N S_T S_M S_B S_Y S_O I1 (fun _ _ q => by rw [hZh]; exact q) hcw hh21 (by decide) (by decide) (by decide +kernel)) hZ (ow59 hw) (ow10 hw) (by decide) (by decide)) (g := (mkF m 121 #[.val (.int p0), .val (.int p1), .val (.int zm), .val (.int (2007 : Int32)), .unset] [(.int (2007 : Int32))])) rfl (by rw [hml]; rfl) (argsL := [(.int (2007 : Int32))]) (rest := []) (lenOf pd3 rfl) rfl (by show 2 * 0 + _ ≤ _; exact Nat.le_of_eq rfl) (hb hby at_121) (fun _ _ => ⟨rfl, e0, (by decide : 0 + 2 ≤ _), (by decide : 0 + 48 ≤ _)⟩)
              dsimp only [Pt.U, Pt.locs, Pt.cells, Pt.slots] at X18 l18 y18 z18 st18 hQ18 hS18 hgr18
              subst l18 y18 z18
              have hM18 := hS18
              obtain ⟨X18, hS, hZ, hown⟩ := rebS hS (by rw [e0]; exact (Nat.le_refl _) : _ ≤ s₁.heap.size) X18 hM18 hgr18 hZ hown
              obtain ⟨rfl, N18q, K18⟩ := hQ18
              have N18 := Fr.app N0 N18q
              have KK18 : Keep h0 T18.heap [] := Keep.trans (Keep.refl h0 []) K18 all0
              refine own_goW (T' := T18) (f' := (mkF m 135 #[.val (.int p0), .val (.int p1), .val (.int zm), .val (.int (2007 : Int32)), .val (.ref wO)] [(.int (2007 : Int32))])) (fun _ k => st18.trans (XS.astore X18.here hx rfl (hb hby at_124) rfl rfl (l' := #[.val (.int p0), .val (.int p1), .val (.int zm), .val (.int (2007 : Int32)), .val (.ref wO)]) rfl (XS.goto X18.here hx rfl (pc0 := 126) (pc' := 134) rfl (hb hby at_126) (by decide) (by decide) (XS.iloadN X18.here hx rfl (hb hby at_134) rfl k)))) ?_
              obtain ⟨_, _, ⟨T19, L19, k19, n19⟩, -, X19, ⟨Lc19, hQ19, l19, y19, z19⟩, st19⟩ := Jvm.LawKit.callS X18 hx (y := mn5) hown (mvT hZ (ow4 hw)) (mvT hZ (ow5 hw)) (mvT hZ (ow2 hw)) (mvT hZ (ow6 hw)) (by decide) (backOf (W := 0) (rm1O l Z a0 hw [] (2007 : Int32) wN wT wM wB wY wO T18.heap n0 (Nat.le_trans Z0 K18.1) (own_sta_keep S_N K18 own_ws0) (own_sta_keep S_T K18 own_ws0) (own_sta_keep S_M K18 own_ws0) (own_sta_keep S_B K18 own_ws0) (own_sta_keep S_Y K18 own_ws0) (own_sta_keep S_O K18 own_ws0) (by decide +kernel)) hZ (ow6 hw) (ow2 hw) (by decide) (by decide)) (g := (mkF m 135 #[.val (.int p0), .val (.int p1), .val (.int zm), .val (.int (2007 : Int32)), .val (.ref wO)] [(.int (2007 : Int32))])) rfl (by rw [hml]; rfl) (argsL := [(.int (2007 : Int32))]) (rest := []) (lenOf pd3 rfl) rfl (by show 2 * 0 + _ ≤ _; exact Nat.le_of_eq rfl) (hb hby at_135) (fun _ _ => ⟨rfl, rfl, (by decide : 2 + 0 ≤ _), (by decide : 48 + 0 ≤ _)⟩)
              dsimp only [Pt.U, Pt.locs, Pt.cells, Pt.slots] at X19 l19 y19 z19 st19 hQ19
              subst l19 y19 z19
              obtain ⟨rfl, N19q, hh19⟩ := hQ19
              have N19 := Fr.app N18 N19q
              refine own_goW (T' := T19) (f' := (mkF m 148 #[.val (.int p0), .val (.int p1), .val (.int zm), .val (.int (2007 : Int32)), .val (.ref wO)] [(.int (1 : Int32))])) (fun _ k => st19 _ (XS.aload X19.here hx rfl (hb hby at_138) rfl rfl (Jvm.RoadKit.acmp (g := (mkF m 140 #[.val (.int p0), .val (.int p1), .val (.int zm), .val (.int (2007 : Int32)), .val (.ref wO)] [(.ref wO), (.ref wO)])) X19 hx rfl rfl rfl (pc0 := 140) (pc' := 143) (same := true) rfl (hb hby at_140) rfl (decide_eq_true rfl) (by decide) (by decide) (XS.iconst X19.here hx rfl (hb hby at_143) (XS.goto X19.here hx rfl (pc0 := 144) (pc' := 148) rfl (hb hby at_144) (by decide) (by decide) k))))) ?_
              refine own_retW X19 hS (by rw [hh19]; exact (Nat.le_refl _)) (v := some (.int (1 : Int32))) (fun h => by rw [Bd.returns] at h; cases h) Bd.notSynchronized (fun fs hr => retN X19 hx (t := .boolean) Bd.returns (by simp) (hb hby at_148) hr) ?_ (by decide) (by decide)
              show Q0 Z B p0 p1 cs fm wN wT wM wB wY wO h0 n0 _ T19.heap T19.vm _
              exact ⟨rfl, N19⟩
            · refine own_goW (T' := s₁) (f' := (mkF m 121 #[.val (.int p0), .val (.int p1), .val (.int zm), .val (.int (2008 : Int32)), .unset] [(.int (2008 : Int32))])) (fun _ k => XS.iloadN X0.here hx rfl (hb hby at_120) rfl k) ?_
              obtain ⟨_, _, ⟨T20, L20, k20, n20⟩, -, X20, hS20, hgr20, ⟨Lc20, hQ20, l20, y20, z20⟩, st20⟩ := callSS X0 hx (y := mn8) hown (mvT hZ (ow57 hw)) (mvT hZ (ow58 hw)) (mvT hZ (ow10 hw)) (mvT hZ (ow59 hw)) (by decide) (own_backS (W := 0) (rm9O l Z a0 hw [] (s.setVm s.vm) (2008 : Int32) cs fm wN wT wM wB wY wO h0 n0 Z0 S_cs hcs S_fm hfm S_N S_T S_M S_B S_Y S_O I1 (fun _ _ q => by rw [hZh]; exact q) hcw hh21 (by decide) (by decide) (by decide +kernel)) hZ (ow59 hw) (ow10 hw) (by decide) (by decide)) (g := (mkF m 121 #[.val (.int p0), .val (.int p1), .val (.int zm), .val (.int (2008 : Int32)), .unset] [(.int (2008 : Int32))])) rfl (by rw [hml]; rfl) (argsL := [(.int (2008 : Int32))]) (rest := []) (lenOf pd3 rfl) rfl (by show 2 * 0 + _ ≤ _; exact Nat.le_of_eq rfl) (hb hby at_121) (fun _ _ => ⟨rfl, e0, (by decide : 0 + 2 ≤ _), (by decide : 0 + 48 ≤ _)⟩)
              dsimp only [Pt.U, Pt.locs, Pt.cells, Pt.slots] at X20 l20 y20 z20 st20 hQ20 hS20 hgr20
              subst l20 y20 z20
              have hM20 := hS20
              obtain ⟨X20, hS, hZ, hown⟩ := rebS hS (by rw [e0]; exact (Nat.le_refl _) : _ ≤ s₁.heap.size) X20 hM20 hgr20 hZ hown
              obtain ⟨rfl, N20q, K20⟩ := hQ20
              have N20 := Fr.app N0 N20q
              have KK20 : Keep h0 T20.heap [] := Keep.trans (Keep.refl h0 []) K20 all0
              refine own_goW (T' := T20) (f' := (mkF m 135 #[.val (.int p0), .val (.int p1), .val (.int zm), .val (.int (2008 : Int32)), .val (.ref wO)] [(.int (2008 : Int32))])) (fun _ k => st20.trans (XS.astore X20.here hx rfl (hb hby at_124) rfl rfl (l' := #[.val (.int p0), .val (.int p1), .val (.int zm), .val (.int (2008 : Int32)), .val (.ref wO)]) rfl (XS.goto X20.here hx rfl (pc0 := 126) (pc' := 134) rfl (hb hby at_126) (by decide) (by decide) (XS.iloadN X20.here hx rfl (hb hby at_134) rfl k)))) ?_
              obtain ⟨_, _, ⟨T21, L21, k21, n21⟩, -, X21, ⟨Lc21, hQ21, l21, y21, z21⟩, st21⟩ := Jvm.LawKit.callS X20 hx (y := mn5) hown (mvT hZ (ow4 hw)) (mvT hZ (ow5 hw)) (mvT hZ (ow2 hw)) (mvT hZ (ow6 hw)) (by decide) (backOf (W := 0) (rm1O l Z a0 hw [] (2008 : Int32) wN wT wM wB wY wO T20.heap n0 (Nat.le_trans Z0 K20.1) (own_sta_keep S_N K20 own_ws0) (own_sta_keep S_T K20 own_ws0) (own_sta_keep S_M K20 own_ws0) (own_sta_keep S_B K20 own_ws0) (own_sta_keep S_Y K20 own_ws0) (own_sta_keep S_O K20 own_ws0) (by decide +kernel)) hZ (ow6 hw) (ow2 hw) (by decide) (by decide)) (g := (mkF m 135 #[.val (.int p0), .val (.int p1), .val (.int zm), .val (.int (2008 : Int32)), .val (.ref wO)] [(.int (2008 : Int32))])) rfl (by rw [hml]; rfl) (argsL := [(.int (2008 : Int32))]) (rest := []) (lenOf pd3 rfl) rfl (by show 2 * 0 + _ ≤ _; exact Nat.le_of_eq rfl) (hb hby at_135) (fun _ _ => ⟨rfl, rfl, (by decide : 2 + 0 ≤ _), (by decide : 48 + 0 ≤ _)⟩)
              dsimp only [Pt.U, Pt.locs, Pt.cells, Pt.slots] at X21 l21 y21 z21 st21 hQ21
              subst l21 y21 z21
              obtain ⟨rfl, N21q, hh21⟩ := hQ21
              have N21 := Fr.app N20 N21q
              refine own_goW (T' := T21) (f' := (mkF m 148 #[.val (.int p0), .val (.int p1), .val (.int zm), .val (.int (2008 : Int32)), .val (.ref wO)] [(.int (1 : Int32))])) (fun _ k => st21 _ (XS.aload X21.here hx rfl (hb hby at_138) rfl rfl (Jvm.RoadKit.acmp (g := (mkF m 140 #[.val (.int p0), .val (.int p1), .val (.int zm), .val (.int (2008 : Int32)), .val (.ref wO)] [(.ref wO), (.ref wO)])) X21 hx rfl rfl rfl (pc0 := 140) (pc' := 143) (same := true) rfl (hb hby at_140) rfl (decide_eq_true rfl) (by decide) (by decide) (XS.iconst X21.here hx rfl (hb hby at_143) (XS.goto X21.here hx rfl (pc0 := 144) (pc' := 148) rfl (hb hby at_144) (by decide) (by decide) k))))) ?_
              refine own_retW X21 hS (by rw [hh21]; exact (Nat.le_refl _)) (v := some (.int (1 : Int32))) (fun h => by rw [Bd.returns] at h; cases h) Bd.notSynchronized (fun fs hr => retN X21 hx (t := .boolean) Bd.returns (by simp) (hb hby at_148) hr) ?_ (by decide) (by decide)
              show Q0 Z B p0 p1 cs fm wN wT wM wB wY wO h0 n0 _ T21.heap T21.vm _
              exact ⟨rfl, N21⟩
            · refine own_goW (T' := s₁) (f' := (mkF m 121 #[.val (.int p0), .val (.int p1), .val (.int zm), .val (.int (2009 : Int32)), .unset] [(.int (2009 : Int32))])) (fun _ k => XS.iloadN X0.here hx rfl (hb hby at_120) rfl k) ?_
              obtain ⟨_, _, ⟨T22, L22, k22, n22⟩, -, X22, hS22, hgr22, ⟨Lc22, hQ22, l22, y22, z22⟩, st22⟩ := callSS X0 hx (y := mn8) hown (mvT hZ (ow57 hw)) (mvT hZ (ow58 hw)) (mvT hZ (ow10 hw)) (mvT hZ (ow59 hw)) (by decide) (own_backS (W := 0) (rm9O l Z a0 hw [] (s.setVm s.vm) (2009 : Int32) cs fm wN wT wM wB wY wO h0 n0 Z0 S_cs hcs S_fm hfm S_N S_T S_M S_B S_Y S_O I1 (fun _ _ q => by rw [hZh]; exact q) hcw hh21 (by decide) (by decide) (by decide +kernel)) hZ (ow59 hw) (ow10 hw) (by decide) (by decide)) (g := (mkF m 121 #[.val (.int p0), .val (.int p1), .val (.int zm), .val (.int (2009 : Int32)), .unset] [(.int (2009 : Int32))])) rfl (by rw [hml]; rfl) (argsL := [(.int (2009 : Int32))]) (rest := []) (lenOf pd3 rfl) rfl (by show 2 * 0 + _ ≤ _; exact Nat.le_of_eq rfl) (hb hby at_121) (fun _ _ => ⟨rfl, e0, (by decide : 0 + 2 ≤ _), (by decide : 0 + 48 ≤ _)⟩)
              dsimp only [Pt.U, Pt.locs, Pt.cells, Pt.slots] at X22 l22 y22 z22 st22 hQ22 hS22 hgr22
              subst l22 y22 z22
              have hM22 := hS22
              obtain ⟨X22, hS, hZ, hown⟩ := rebS hS (by rw [e0]; exact (Nat.le_refl _) : _ ≤ s₁.heap.size) X22 hM22 hgr22 hZ hown
              obtain ⟨rfl, N22q, K22⟩ := hQ22
              have N22 := Fr.app N0 N22q
              have KK22 : Keep h0 T22.heap [] := Keep.trans (Keep.refl h0 []) K22 all0
              refine own_goW (T' := T22) (f' := (mkF m 135 #[.val (.int p0), .val (.int p1), .val (.int zm), .val (.int (2009 : Int32)), .val (.ref wO)] [(.int (2009 : Int32))])) (fun _ k => st22.trans (XS.astore X22.here hx rfl (hb hby at_124) rfl rfl (l' := #[.val (.int p0), .val (.int p1), .val (.int zm), .val (.int (2009 : Int32)), .val (.ref wO)]) rfl (XS.goto X22.here hx rfl (pc0 := 126) (pc' := 134) rfl (hb hby at_126) (by decide) (by decide) (XS.iloadN X22.here hx rfl (hb hby at_134) rfl k)))) ?_
              obtain ⟨_, _, ⟨T23, L23, k23, n23⟩, -, X23, ⟨Lc23, hQ23, l23, y23, z23⟩, st23⟩ := Jvm.LawKit.callS X22 hx (y := mn5) hown (mvT hZ (ow4 hw)) (mvT hZ (ow5 hw)) (mvT hZ (ow2 hw)) (mvT hZ (ow6 hw)) (by decide) (backOf (W := 0) (rm1O l Z a0 hw [] (2009 : Int32) wN wT wM wB wY wO T22.heap n0 (Nat.le_trans Z0 K22.1) (own_sta_keep S_N K22 own_ws0) (own_sta_keep S_T K22 own_ws0) (own_sta_keep S_M K22 own_ws0) (own_sta_keep S_B K22 own_ws0) (own_sta_keep S_Y K22 own_ws0) (own_sta_keep S_O K22 own_ws0) (by decide +kernel)) hZ (ow6 hw) (ow2 hw) (by decide) (by decide)) (g := (mkF m 135 #[.val (.int p0), .val (.int p1), .val (.int zm), .val (.int (2009 : Int32)), .val (.ref wO)] [(.int (2009 : Int32))])) rfl (by rw [hml]; rfl) (argsL := [(.int (2009 : Int32))]) (rest := []) (lenOf pd3 rfl) rfl (by show 2 * 0 + _ ≤ _; exact Nat.le_of_eq rfl) (hb hby at_135) (fun _ _ => ⟨rfl, rfl, (by decide : 2 + 0 ≤ _), (by decide : 48 + 0 ≤ _)⟩)
              dsimp only [Pt.U, Pt.locs, Pt.cells, Pt.slots] at X23 l23 y23 z23 st23 hQ23
              subst l23 y23 z23
              obtain ⟨rfl, N23q, hh23⟩ := hQ23
              have N23 := Fr.app N22 N23q
              refine own_goW (T' := T23) (f' := (mkF m 148 #[.val (.int p0), .val (.int p1), .val (.int zm), .val (.int (2009 : Int32)), .val (.ref wO)] [(.int (1 : Int32))])) (fun _ k => st23 _ (XS.aload X23.here hx rfl (hb hby at_138) rfl rfl (Jvm.RoadKit.acmp (g := (mkF m 140 #[.val (.int p0), .val (.int p1), .val (.int zm), .val (.int (2009 : Int32)), .val (.ref wO)] [(.ref wO), (.ref wO)])) X23 hx rfl rfl rfl (pc0 := 140) (pc' := 143) (same := true) rfl (hb hby at_140) rfl (decide_eq_true rfl) (by decide) (by decide) (XS.iconst X23.here hx rfl (hb hby at_143) (XS.goto X23.here hx rfl (pc0 := 144) (pc' := 148) rfl (hb hby at_144) (by decide) (by decide) k))))) ?_
              refine own_retW X23 hS (by rw [hh23]; exact (Nat.le_refl _)) (v := some (.int (1 : Int32))) (fun h => by rw [Bd.returns] at h; cases h) Bd.notSynchronized (fun fs hr => retN X23 hx (t := .boolean) Bd.returns (by simp) (hb hby at_148) hr) ?_ (by decide) (by decide)
              show Q0 Z B p0 p1 cs fm wN wT wM wB wY wO h0 n0 _ T23.heap T23.vm _
              exact ⟨rfl, N23⟩
            · refine own_goW (T' := s₁) (f' := (mkF m 121 #[.val (.int p0), .val (.int p1), .val (.int zm), .val (.int (2010 : Int32)), .unset] [(.int (2010 : Int32))])) (fun _ k => XS.iloadN X0.here hx rfl (hb hby at_120) rfl k) ?_
              obtain ⟨_, _, ⟨T24, L24, k24, n24⟩, -, X24, hS24, hgr24, ⟨Lc24, hQ24, l24, y24, z24⟩, st24⟩ := callSS X0 hx (y := mn8) hown (mvT hZ (ow57 hw)) (mvT hZ (ow58 hw)) (mvT hZ (ow10 hw)) (mvT hZ (ow59 hw)) (by decide) (own_backS (W := 0) (rm9O l Z a0 hw [] (s.setVm s.vm) (2010 : Int32) cs fm wN wT wM wB wY wO h0 n0 Z0 S_cs hcs S_fm hfm S_N S_T S_M S_B S_Y S_O I1 (fun _ _ q => by rw [hZh]; exact q) hcw hh21 (by decide) (by decide) (by decide +kernel)) hZ (ow59 hw) (ow10 hw) (by decide) (by decide)) (g := (mkF m 121 #[.val (.int p0), .val (.int p1), .val (.int zm), .val (.int (2010 : Int32)), .unset] [(.int (2010 : Int32))])) rfl (by rw [hml]; rfl) (argsL := [(.int (2010 : Int32))]) (rest := []) (lenOf pd3 rfl) rfl (by show 2 * 0 + _ ≤ _; exact Nat.le_of_eq rfl) (hb hby at_121) (fun _ _ => ⟨rfl, e0, (by decide : 0 + 2 ≤ _), (by decide : 0 + 48 ≤ _)⟩)
              dsimp only [Pt.U, Pt.locs, Pt.cells, Pt.slots] at X24 l24 y24 z24 st24 hQ24 hS24 hgr24
              subst l24 y24 z24
              have hM24 := hS24
              obtain ⟨X24, hS, hZ, hown⟩ := rebS hS (by rw [e0]; exact (Nat.le_refl _) : _ ≤ s₁.heap.size) X24 hM24 hgr24 hZ hown
              obtain ⟨rfl, N24q, K24⟩ := hQ24
              have N24 := Fr.app N0 N24q
              have KK24 : Keep h0 T24.heap [] := Keep.trans (Keep.refl h0 []) K24 all0
              refine own_goW (T' := T24) (f' := (mkF m 135 #[.val (.int p0), .val (.int p1), .val (.int zm), .val (.int (2010 : Int32)), .val (.ref wO)] [(.int (2010 : Int32))])) (fun _ k => st24.trans (XS.astore X24.here hx rfl (hb hby at_124) rfl rfl (l' := #[.val (.int p0), .val (.int p1), .val (.int zm), .val (.int (2010 : Int32)), .val (.ref wO)]) rfl (XS.goto X24.here hx rfl (pc0 := 126) (pc' := 134) rfl (hb hby at_126) (by decide) (by decide) (XS.iloadN X24.here hx rfl (hb hby at_134) rfl k)))) ?_
              obtain ⟨_, _, ⟨T25, L25, k25, n25⟩, -, X25, ⟨Lc25, hQ25, l25, y25, z25⟩, st25⟩ := Jvm.LawKit.callS X24 hx (y := mn5) hown (mvT hZ (ow4 hw)) (mvT hZ (ow5 hw)) (mvT hZ (ow2 hw)) (mvT hZ (ow6 hw)) (by decide) (backOf (W := 0) (rm1O l Z a0 hw [] (2010 : Int32) wN wT wM wB wY wO T24.heap n0 (Nat.le_trans Z0 K24.1) (own_sta_keep S_N K24 own_ws0) (own_sta_keep S_T K24 own_ws0) (own_sta_keep S_M K24 own_ws0) (own_sta_keep S_B K24 own_ws0) (own_sta_keep S_Y K24 own_ws0) (own_sta_keep S_O K24 own_ws0) (by decide +kernel)) hZ (ow6 hw) (ow2 hw) (by decide) (by decide)) (g := (mkF m 135 #[.val (.int p0), .val (.int p1), .val (.int zm), .val (.int (2010 : Int32)), .val (.ref wO)] [(.int (2010 : Int32))])) rfl (by rw [hml]; rfl) (argsL := [(.int (2010 : Int32))]) (rest := []) (lenOf pd3 rfl) rfl (by show 2 * 0 + _ ≤ _; exact Nat.le_of_eq rfl) (hb hby at_135) (fun _ _ => ⟨rfl, rfl, (by decide : 2 + 0 ≤ _), (by decide : 48 + 0 ≤ _)⟩)
              dsimp only [Pt.U, Pt.locs, Pt.cells, Pt.slots] at X25 l25 y25 z25 st25 hQ25
              subst l25 y25 z25
              obtain ⟨rfl, N25q, hh25⟩ := hQ25
              have N25 := Fr.app N24 N25q
              refine own_goW (T' := T25) (f' := (mkF m 148 #[.val (.int p0), .val (.int p1), .val (.int zm), .val (.int (2010 : Int32)), .val (.ref wO)] [(.int (1 : Int32))])) (fun _ k => st25 _ (XS.aload X25.here hx rfl (hb hby at_138) rfl rfl (Jvm.RoadKit.acmp (g := (mkF m 140 #[.val (.int p0), .val (.int p1), .val (.int zm), .val (.int (2010 : Int32)), .val (.ref wO)] [(.ref wO), (.ref wO)])) X25 hx rfl rfl rfl (pc0 := 140) (pc' := 143) (same := true) rfl (hb hby at_140) rfl (decide_eq_true rfl) (by decide) (by decide) (XS.iconst X25.here hx rfl (hb hby at_143) (XS.goto X25.here hx rfl (pc0 := 144) (pc' := 148) rfl (hb hby at_144) (by decide) (by decide) k))))) ?_
              refine own_retW X25 hS (by rw [hh25]; exact (Nat.le_refl _)) (v := some (.int (1 : Int32))) (fun h => by rw [Bd.returns] at h; cases h) Bd.notSynchronized (fun fs hr => retN X25 hx (t := .boolean) Bd.returns (by simp) (hb hby at_148) hr) ?_ (by decide) (by decide)
              show Q0 Z B p0 p1 cs fm wN wT wM wB wY wO h0 n0 _ T25.heap T25.vm _
              exact ⟨rfl, N25⟩
            · refine own_goW (T' := s₁) (f' := (mkF m 121 #[.val (.int p0), .val (.int p1), .val (.int zm), .val (.int (2011 : Int32)), .unset] [(.int (2011 : Int32))])) (fun _ k => XS.iloadN X0.here hx rfl (hb hby at_120) rfl k) ?_
              obtain ⟨_, _, ⟨T26, L26, k26, n26⟩, -, X26, hS26, hgr26, ⟨Lc26, hQ26, l26, y26, z26⟩, st26⟩ := callSS X0 hx (y := mn8) hown (mvT hZ (ow57 hw)) (mvT hZ (ow58 hw)) (mvT hZ (ow10 hw)) (mvT hZ (ow59 hw)) (by decide) (own_backS (W := 0) (rm9T l Z a0 hw [] (s.setVm s.vm) (2011 : Int32) cs fm wN wT wM wB wY wO h0 n0 Z0 S_cs hcs S_fm hfm S_N S_T S_M S_B S_Y S_O I1 (fun _ _ q => by rw [hZh]; exact q) hcw hh21 (by decide) (by decide) (by decide +kernel)) hZ (ow59 hw) (ow10 hw) (by decide) (by decide)) (g := (mkF m 121 #[.val (.int p0), .val (.int p1), .val (.int zm), .val (.int (2011 : Int32)), .unset] [(.int (2011 : Int32))])) rfl (by rw [hml]; rfl) (argsL := [(.int (2011 : Int32))]) (rest := []) (lenOf pd3 rfl) rfl (by show 2 * 0 + _ ≤ _; exact Nat.le_of_eq rfl) (hb hby at_121) (fun _ _ => ⟨rfl, e0, (by decide : 0 + 2 ≤ _), (by decide : 0 + 48 ≤ _)⟩)
              dsimp only [Pt.U, Pt.locs, Pt.cells, Pt.slots] at X26 l26 y26 z26 st26 hQ26 hS26 hgr26
              subst l26 y26 z26
              have hM26 := hS26
              obtain ⟨X26, hS, hZ, hown⟩ := rebS hS (by rw [e0]; exact (Nat.le_refl _) : _ ≤ s₁.heap.size) X26 hM26 hgr26 hZ hown
              obtain ⟨rfl, N26q, K26⟩ := hQ26
              have N26 := Fr.app N0 N26q
              have KK26 : Keep h0 T26.heap [] := Keep.trans (Keep.refl h0 []) K26 all0
              refine own_goW (T' := T26) (f' := (mkF m 135 #[.val (.int p0), .val (.int p1), .val (.int zm), .val (.int (2011 : Int32)), .val (.ref wT)] [(.int (2011 : Int32))])) (fun _ k => st26.trans (XS.astore X26.here hx rfl (hb hby at_124) rfl rfl (l' := #[.val (.int p0), .val (.int p1), .val (.int zm), .val (.int (2011 : Int32)), .val (.ref wT)]) rfl (XS.goto X26.here hx rfl (pc0 := 126) (pc' := 134) rfl (hb hby at_126) (by decide) (by decide) (XS.iloadN X26.here hx rfl (hb hby at_134) rfl k)))) ?_
              obtain ⟨_, _, ⟨T27, L27, k27, n27⟩, -, X27, ⟨Lc27, hQ27, l27, y27, z27⟩, st27⟩ := Jvm.LawKit.callS X26 hx (y := mn5) hown (mvT hZ (ow4 hw)) (mvT hZ (ow5 hw)) (mvT hZ (ow2 hw)) (mvT hZ (ow6 hw)) (by decide) (backOf (W := 0) (rm1T l Z a0 hw [] (2011 : Int32) wN wT wM wB wY wO T26.heap n0 (Nat.le_trans Z0 K26.1) (own_sta_keep S_N K26 own_ws0) (own_sta_keep S_T K26 own_ws0) (own_sta_keep S_M K26 own_ws0) (own_sta_keep S_B K26 own_ws0) (own_sta_keep S_Y K26 own_ws0) (own_sta_keep S_O K26 own_ws0) (by decide +kernel)) hZ (ow6 hw) (ow2 hw) (by decide) (by decide)) (g := (mkF m 135 #[.val (.int p0), .val (.int p1), .val (.int zm), .val (.int (2011 : Int32)), .val (.ref wT)] [(.int (2011 : Int32))])) rfl (by rw [hml]; rfl) (argsL := [(.int (2011 : Int32))]) (rest := []) (lenOf pd3 rfl) rfl (by show 2 * 0 + _ ≤ _; exact Nat.le_of_eq rfl) (hb hby at_135) (fun _ _ => ⟨rfl, rfl, (by decide : 2 + 0 ≤ _), (by decide : 48 + 0 ≤ _)⟩)
              dsimp only [Pt.U, Pt.locs, Pt.cells, Pt.slots] at X27 l27 y27 z27 st27 hQ27
              subst l27 y27 z27
              obtain ⟨rfl, N27q, hh27⟩ := hQ27
              have N27 := Fr.app N26 N27q
              refine own_goW (T' := T27) (f' := (mkF m 148 #[.val (.int p0), .val (.int p1), .val (.int zm), .val (.int (2011 : Int32)), .val (.ref wT)] [(.int (1 : Int32))])) (fun _ k => st27 _ (XS.aload X27.here hx rfl (hb hby at_138) rfl rfl (Jvm.RoadKit.acmp (g := (mkF m 140 #[.val (.int p0), .val (.int p1), .val (.int zm), .val (.int (2011 : Int32)), .val (.ref wT)] [(.ref wT), (.ref wT)])) X27 hx rfl rfl rfl (pc0 := 140) (pc' := 143) (same := true) rfl (hb hby at_140) rfl (decide_eq_true rfl) (by decide) (by decide) (XS.iconst X27.here hx rfl (hb hby at_143) (XS.goto X27.here hx rfl (pc0 := 144) (pc' := 148) rfl (hb hby at_144) (by decide) (by decide) k))))) ?_
              refine own_retW X27 hS (by rw [hh27]; exact (Nat.le_refl _)) (v := some (.int (1 : Int32))) (fun h => by rw [Bd.returns] at h; cases h) Bd.notSynchronized (fun fs hr => retN X27 hx (t := .boolean) Bd.returns (by simp) (hb hby at_148) hr) ?_ (by decide) (by decide)
              show Q0 Z B p0 p1 cs fm wN wT wM wB wY wO h0 n0 _ T27.heap T27.vm _
              exact ⟨rfl, N27⟩
            · refine own_goW (T' := s₁) (f' := (mkF m 121 #[.val (.int p0), .val (.int p1), .val (.int zm), .val (.int (2012 : Int32)), .unset] [(.int (2012 : Int32))])) (fun _ k => XS.iloadN X0.here hx rfl (hb hby at_120) rfl k) ?_
              obtain ⟨_, _, ⟨T28, L28, k28, n28⟩, -, X28, hS28, hgr28, ⟨Lc28, hQ28, l28, y28, z28⟩, st28⟩ := callSS X0 hx (y := mn8) hown (mvT hZ (ow57 hw)) (mvT hZ (ow58 hw)) (mvT hZ (ow10 hw)) (mvT hZ (ow59 hw)) (by decide) (own_backS (W := 0) (rm9O l Z a0 hw [] (s.setVm s.vm) (2012 : Int32) cs fm wN wT wM wB wY wO h0 n0 Z0 S_cs hcs S_fm hfm S_N S_T S_M S_B S_Y S_O I1 (fun _ _ q => by rw [hZh]; exact q) hcw hh21 (by decide) (by decide) (by decide +kernel)) hZ (ow59 hw) (ow10 hw) (by decide) (by decide)) (g := (mkF m 121 #[.val (.int p0), .val (.int p1), .val (.int zm), .val (.int (2012 : Int32)), .unset] [(.int (2012 : Int32))])) rfl (by rw [hml]; rfl) (argsL := [(.int (2012 : Int32))]) (rest := []) (lenOf pd3 rfl) rfl (by show 2 * 0 + _ ≤ _; exact Nat.le_of_eq rfl) (hb hby at_121) (fun _ _ => ⟨rfl, e0, (by decide : 0 + 2 ≤ _), (by decide : 0 + 48 ≤ _)⟩)
              dsimp only [Pt.U, Pt.locs, Pt.cells, Pt.slots] at X28 l28 y28 z28 st28 hQ28 hS28 hgr28
              subst l28 y28 z28
              have hM28 := hS28
              obtain ⟨X28, hS, hZ, hown⟩ := rebS hS (by rw [e0]; exact (Nat.le_refl _) : _ ≤ s₁.heap.size) X28 hM28 hgr28 hZ hown
              obtain ⟨rfl, N28q, K28⟩ := hQ28
              have N28 := Fr.app N0 N28q
              have KK28 : Keep h0 T28.heap [] := Keep.trans (Keep.refl h0 []) K28 all0
              refine own_goW (T' := T28) (f' := (mkF m 135 #[.val (.int p0), .val (.int p1), .val (.int zm), .val (.int (2012 : Int32)), .val (.ref wO)] [(.int (2012 : Int32))])) (fun _ k => st28.trans (XS.astore X28.here hx rfl (hb hby at_124) rfl rfl (l' := #[.val (.int p0), .val (.int p1), .val (.int zm), .val (.int (2012 : Int32)), .val (.ref wO)]) rfl (XS.goto X28.here hx rfl (pc0 := 126) (pc' := 134) rfl (hb hby at_126) (by decide) (by decide) (XS.iloadN X28.here hx rfl (hb hby at_134) rfl k)))) ?_
              obtain ⟨_, _, ⟨T29, L29, k29, n29⟩, -, X29, ⟨Lc29, hQ29, l29, y29, z29⟩, st29⟩ := Jvm.LawKit.callS X28 hx (y := mn5) hown (mvT hZ (ow4 hw)) (mvT hZ (ow5 hw)) (mvT hZ (ow2 hw)) (mvT hZ (ow6 hw)) (by decide) (backOf (W := 0) (rm1O l Z a0 hw [] (2012 : Int32) wN wT wM wB wY wO T28.heap n0 (Nat.le_trans Z0 K28.1) (own_sta_keep S_N K28 own_ws0) (own_sta_keep S_T K28 own_ws0) (own_sta_keep S_M K28 own_ws0) (own_sta_keep S_B K28 own_ws0) (own_sta_keep S_Y K28 own_ws0) (own_sta_keep S_O K28 own_ws0) (by decide +kernel)) hZ (ow6 hw) (ow2 hw) (by decide) (by decide)) (g := (mkF m 135 #[.val (.int p0), .val (.int p1), .val (.int zm), .val (.int (2012 : Int32)), .val (.ref wO)] [(.int (2012 : Int32))])) rfl (by rw [hml]; rfl) (argsL := [(.int (2012 : Int32))]) (rest := []) (lenOf pd3 rfl) rfl (by show 2 * 0 + _ ≤ _; exact Nat.le_of_eq rfl) (hb hby at_135) (fun _ _ => ⟨rfl, rfl, (by decide : 2 + 0 ≤ _), (by decide : 48 + 0 ≤ _)⟩)
              dsimp only [Pt.U, Pt.locs, Pt.cells, Pt.slots] at X29 l29 y29 z29 st29 hQ29
              subst l29 y29 z29
              obtain ⟨rfl, N29q, hh29⟩ := hQ29
              have N29 := Fr.app N28 N29q
              refine own_goW (T' := T29) (f' := (mkF m 148 #[.val (.int p0), .val (.int p1), .val (.int zm), .val (.int (2012 : Int32)), .val (.ref wO)] [(.int (1 : Int32))])) (fun _ k => st29 _ (XS.aload X29.here hx rfl (hb hby at_138) rfl rfl (Jvm.RoadKit.acmp (g := (mkF m 140 #[.val (.int p0), .val (.int p1), .val (.int zm), .val (.int (2012 : Int32)), .val (.ref wO)] [(.ref wO), (.ref wO)])) X29 hx rfl rfl rfl (pc0 := 140) (pc' := 143) (same := true) rfl (hb hby at_140) rfl (decide_eq_true rfl) (by decide) (by decide) (XS.iconst X29.here hx rfl (hb hby at_143) (XS.goto X29.here hx rfl (pc0 := 144) (pc' := 148) rfl (hb hby at_144) (by decide) (by decide) k))))) ?_
              refine own_retW X29 hS (by rw [hh29]; exact (Nat.le_refl _)) (v := some (.int (1 : Int32))) (fun h => by rw [Bd.returns] at h; cases h) Bd.notSynchronized (fun fs hr => retN X29 hx (t := .boolean) Bd.returns (by simp) (hb hby at_148) hr) ?_ (by decide) (by decide)
              show Q0 Z B p0 p1 cs fm wN wT wM wB wY wO h0 n0 _ T29.heap T29.vm _
              exact ⟨rfl, N29⟩
            · refine own_goW (T' := s₁) (f' := (mkF m 121 #[.val (.int p0), .val (.int p1), .val (.int zm), .val (.int (2013 : Int32)), .unset] [(.int (2013 : Int32))])) (fun _ k => XS.iloadN X0.here hx rfl (hb hby at_120) rfl k) ?_
              obtain ⟨_, _, ⟨T30, L30, k30, n30⟩, -, X30, hS30, hgr30, ⟨Lc30, hQ30, l30, y30, z30⟩, st30⟩ := callSS X0 hx (y := mn8) hown (mvT hZ (ow57 hw)) (mvT hZ (ow58 hw)) (mvT hZ (ow10 hw)) (mvT hZ (ow59 hw)) (by decide) (own_backS (W := 0) (rm9M l Z a0 hw [] (s.setVm s.vm) (2013 : Int32) cs fm wN wT wM wB wY wO h0 n0 Z0 S_cs hcs S_fm hfm S_N S_T S_M S_B S_Y S_O I1 (fun _ _ q => by rw [hZh]; exact q) hcw hh21 (by decide) (by decide) (by decide +kernel)) hZ (ow59 hw) (ow10 hw) (by decide) (by decide)) (g := (mkF m 121 #[.val (.int p0), .val (.int p1), .val (.int zm), .val (.int (2013 : Int32)), .unset] [(.int (2013 : Int32))])) rfl (by rw [hml]; rfl) (argsL := [(.int (2013 : Int32))]) (rest := []) (lenOf pd3 rfl) rfl (by show 2 * 0 + _ ≤ _; exact Nat.le_of_eq rfl) (hb hby at_121) (fun _ _ => ⟨rfl, e0, (by decide : 0 + 2 ≤ _), (by decide : 0 + 48 ≤ _)⟩)
              dsimp only [Pt.U, Pt.locs, Pt.cells, Pt.slots] at X30 l30 y30 z30 st30 hQ30 hS30 hgr30
              subst l30 y30 z30
              have hM30 := hS30
              obtain ⟨X30, hS, hZ, hown⟩ := rebS hS (by rw [e0]; exact (Nat.le_refl _) : _ ≤ s₁.heap.size) X30 hM30 hgr30 hZ hown
              obtain ⟨rfl, N30q, K30⟩ := hQ30
              have N30 := Fr.app N0 N30q
              have KK30 : Keep h0 T30.heap [] := Keep.trans (Keep.refl h0 []) K30 all0
              refine own_goW (T' := T30) (f' := (mkF m 135 #[.val (.int p0), .val (.int p1), .val (.int zm), .val (.int (2013 : Int32)), .val (.ref wM)] [(.int (2013 : Int32))])) (fun _ k => st30.trans (XS.astore X30.here hx rfl (hb hby at_124) rfl rfl (l' := #[.val (.int p0), .val (.int p1), .val (.int zm), .val (.int (2013 : Int32)), .val (.ref wM)]) rfl (XS.goto X30.here hx rfl (pc0 := 126) (pc' := 134) rfl (hb hby at_126) (by decide) (by decide) (XS.iloadN X30.here hx rfl (hb hby at_134) rfl k)))) ?_
              obtain ⟨_, _, ⟨T31, L31, k31, n31⟩, -, X31, ⟨Lc31, hQ31, l31, y31, z31⟩, st31⟩ := Jvm.LawKit.callS X30 hx (y := mn5) hown (mvT hZ (ow4 hw)) (mvT hZ (ow5 hw)) (mvT hZ (ow2 hw)) (mvT hZ (ow6 hw)) (by decide) (backOf (W := 0) (rm1M l Z a0 hw [] (2013 : Int32) wN wT wM wB wY wO T30.heap n0 (Nat.le_trans Z0 K30.1) (own_sta_keep S_N K30 own_ws0) (own_sta_keep S_T K30 own_ws0) (own_sta_keep S_M K30 own_ws0) (own_sta_keep S_B K30 own_ws0) (own_sta_keep S_Y K30 own_ws0) (own_sta_keep S_O K30 own_ws0) (by decide +kernel)) hZ (ow6 hw) (ow2 hw) (by decide) (by decide)) (g := (mkF m 135 #[.val (.int p0), .val (.int p1), .val (.int zm), .val (.int (2013 : Int32)), .val (.ref wM)] [(.int (2013 : Int32))])) rfl (by rw [hml]; rfl) (argsL := [(.int (2013 : Int32))]) (rest := []) (lenOf pd3 rfl) rfl (by show 2 * 0 + _ ≤ _; exact Nat.le_of_eq rfl) (hb hby at_135) (fun _ _ => ⟨rfl, rfl, (by decide : 2 + 0 ≤ _), (by decide : 48 + 0 ≤ _)⟩)
              dsimp only [Pt.U, Pt.locs, Pt.cells, Pt.slots] at X31 l31 y31 z31 st31 hQ31
              subst l31 y31 z31
              obtain ⟨rfl, N31q, hh31⟩ := hQ31
              have N31 := Fr.app N30 N31q
              refine own_goW (T' := T31) (f' := (mkF m 148 #[.val (.int p0), .val (.int p1), .val (.int zm), .val (.int (2013 : Int32)), .val (.ref wM)] [(.int (1 : Int32))])) (fun _ k => st31 _ (XS.aload X31.here hx rfl (hb hby at_138) rfl rfl (Jvm.RoadKit.acmp (g := (mkF m 140 #[.val (.int p0), .val (.int p1), .val (.int zm), .val (.int (2013 : Int32)), .val (.ref wM)] [(.ref wM), (.ref wM)])) X31 hx rfl rfl rfl (pc0 := 140) (pc' := 143) (same := true) rfl (hb hby at_140) rfl (decide_eq_true rfl) (by decide) (by decide) (XS.iconst X31.here hx rfl (hb hby at_143) (XS.goto X31.here hx rfl (pc0 := 144) (pc' := 148) rfl (hb hby at_144) (by decide) (by decide) k))))) ?_
              refine own_retW X31 hS (by rw [hh31]; exact (Nat.le_refl _)) (v := some (.int (1 : Int32))) (fun h => by rw [Bd.returns] at h; cases h) Bd.notSynchronized (fun fs hr => retN X31 hx (t := .boolean) Bd.returns (by simp) (hb hby at_148) hr) ?_ (by decide) (by decide)
              show Q0 Z B p0 p1 cs fm wN wT wM wB wY wO h0 n0 _ T31.heap T31.vm _
              exact ⟨rfl, N31⟩
            · refine own_goW (T' := s₁) (f' := (mkF m 121 #[.val (.int p0), .val (.int p1), .val (.int zm), .val (.int (2014 : Int32)), .unset] [(.int (2014 : Int32))])) (fun _ k => XS.iloadN X0.here hx rfl (hb hby at_120) rfl k) ?_
              obtain ⟨_, _, ⟨T32, L32, k32, n32⟩, -, X32, hS32, hgr32, ⟨Lc32, hQ32, l32, y32, z32⟩, st32⟩ := callSS X0 hx (y := mn8) hown (mvT hZ (ow57 hw)) (mvT hZ (ow58 hw)) (mvT hZ (ow10 hw)) (mvT hZ (ow59 hw)) (by decide) (own_backS (W := 0) (rm9M l Z a0 hw [] (s.setVm s.vm) (2014 : Int32) cs fm wN wT wM wB wY wO h0 n0 Z0 S_cs hcs S_fm hfm S_N S_T S_M S_B S_Y S_O I1 (fun _ _ q => by rw [hZh]; exact q) hcw hh21 (by decide) (by decide) (by decide +kernel)) hZ (ow59 hw) (ow10 hw) (by decide) (by decide)) (g := (mkF m 121 #[.val (.int p0), .val (.int p1), .val (.int zm), .val (.int (2014 : Int32)), .unset] [(.int (2014 : Int32))])) rfl (by rw [hml]; rfl) (argsL := [(.int (2014 : Int32))]) (rest := []) (lenOf pd3 rfl) rfl (by show 2 * 0 + _ ≤ _; exact Nat.le_of_eq rfl) (hb hby at_121) (fun _ _ => ⟨rfl, e0, (by decide : 0 + 2 ≤ _), (by decide : 0 + 48 ≤ _)⟩)
              dsimp only [Pt.U, Pt.locs, Pt.cells, Pt.slots] at X32 l32 y32 z32 st32 hQ32 hS32 hgr32
              subst l32 y32 z32
              have hM32 := hS32
              obtain ⟨X32, hS, hZ, hown⟩ := rebS hS (by rw [e0]; exact (Nat.le_refl _) : _ ≤ s₁.heap.size) X32 hM32 hgr32 hZ hown
              obtain ⟨rfl, N32q, K32⟩ := hQ32
              have N32 := Fr.app N0 N32q
              have KK32 : Keep h0 T32.heap [] := Keep.trans (Keep.refl h0 []) K32 all0
              refine own_goW (T' := T32) (f' := (mkF m 135 #[.val (.int p0), .val (.int p1), .val (.int zm), .val (.int (2014 : Int32)), .val (.ref wM)] [(.int (2014 : Int32))])) (fun _ k => st32.trans (XS.astore X32.here hx rfl (hb hby at_124) rfl rfl (l' := #[.val (.int p0), .val (.int p1), .val (.int zm), .val (.int (2014 : Int32)), .val (.ref wM)]) rfl (XS.goto X32.here hx rfl (pc0 := 126) (pc' := 134) rfl (hb hby at_126) (by decide) (by decide) (XS.iloadN X32.here hx rfl (hb hby at_134) rfl k)))) ?_
              obtain ⟨_, _, ⟨T33, L33, k33, n33⟩, -, X33, ⟨Lc33, hQ33, l33, y33, z33⟩, st33⟩ := Jvm.LawKit.callS X32 hx (y := mn5) hown (mvT hZ (ow4 hw)) (mvT hZ (ow5 hw)) (mvT hZ (ow2 hw)) (mvT hZ (ow6 hw)) (by decide) (backOf (W := 0) (rm1M l Z a0 hw [] (2014 : Int32) wN wT wM wB wY wO T32.heap n0 (Nat.le_trans Z0 K32.1) (own_sta_keep S_N K32 own_ws0) (own_sta_keep S_T K32 own_ws0) (own_sta_keep S_M K32 own_ws0) (own_sta_keep S_B K32 own_ws0) (own_sta_keep S_Y K32 own_ws0) (own_sta_keep S_O K32 own_ws0) (by decide +kernel)) hZ (ow6 hw) (ow2 hw) (by decide) (by decide)) (g := (mkF m 135 #[.val (.int p0), .val (.int p1), .val (.int zm), .val (.int (2014 : Int32)), .val (.ref wM)] [(.int (2014 : Int32))])) rfl (by rw [hml]; rfl) (argsL := [(.int (2014 : Int32))]) (rest := []) (lenOf pd3 rfl) rfl (by show 2 * 0 + _ ≤ _; exact Nat.le_of_eq rfl) (hb hby at_135) (fun _ _ => ⟨rfl, rfl, (by decide : 2 + 0 ≤ _), (by decide : 48 + 0 ≤ _)⟩)
              dsimp only [Pt.U, Pt.locs, Pt.cells, Pt.slots] at X33 l33 y33 z33 st33 hQ33
              subst l33 y33 z33
              obtain ⟨rfl, N33q, hh33⟩ := hQ33
              have N33 := Fr.app N32 N33q
              refine own_goW (T' := T33) (f' := (mkF m 148 #[.val (.int p0), .val (.int p1), .val (.int zm), .val (.int (2014 : Int32)), .val (.ref wM)] [(.int (1 : Int32))])) (fun _ k => st33 _ (XS.aload X33.here hx rfl (hb hby at_138) rfl rfl (Jvm.RoadKit.acmp (g := (mkF m 140 #[.val (.int p0), .val (.int p1), .val (.int zm), .val (.int (2014 : Int32)), .val (.ref wM)] [(.ref wM), (.ref wM)])) X33 hx rfl rfl rfl (pc0 := 140) (pc' := 143) (same := true) rfl (hb hby at_140) rfl (decide_eq_true rfl) (by decide) (by decide) (XS.iconst X33.here hx rfl (hb hby at_143) (XS.goto X33.here hx rfl (pc0 := 144) (pc' := 148) rfl (hb hby at_144) (by decide) (by decide) k))))) ?_
              refine own_retW X33 hS (by rw [hh33]; exact (Nat.le_refl _)) (v := some (.int (1 : Int32))) (fun h => by rw [Bd.returns] at h; cases h) Bd.notSynchronized (fun fs hr => retN X33 hx (t := .boolean) Bd.returns (by simp) (hb hby at_148) hr) ?_ (by decide) (by decide)
              show Q0 Z B p0 p1 cs fm wN wT wM wB wY wO h0 n0 _ T33.heap T33.vm _
              exact ⟨rfl, N33⟩
      · refine own_goW (T' := s₁) (f' := (mkF m 95 #[.val (.int p0), .val (.int p1), .val (.int zm), .val (.int zv), .unset] [(.int (93 : Int32)), (.int zv)])) (fun _ k => XS.icmpNo X0.here hx rfl (hb hby at_89) rfl (flt hc3).1 (XS.iloadN X0.here hx rfl (hb hby at_92) rfl (XS.bipush X0.here hx rfl (hb hby at_93) k))) ?_
        by_cases hc34 : (93 : Int32) < zv
        · refine own_goW (T' := s₁) (f' := (mkF m 110 #[.val (.int p0), .val (.int p1), .val (.int zm), .val (.int zv), .unset] [(.int (2004 : Int32)), (.int zv)])) (fun _ k => XS.icmpYes X0.here hx rfl (pc0 := 95) (pc' := 106) rfl (hb hby at_95) rfl (tlt hc34).2.2.1 (by decide) (by decide) (XS.iloadN X0.here hx rfl (hb hby at_106) rfl (XS.sipush X0.here hx rfl (hb hby at_107) k))) ?_
          by_cases hc35 : zv < (2004 : Int32)
          · refine own_goW (T' := s₁) (f' := (mkF m 129 #[.val (.int p0), .val (.int p1), .val (.int zm), .val (.int zv), .unset] [])) (fun _ k => XS.icmpYes X0.here hx rfl (pc0 := 110) (pc' := 129) rfl (hb hby at_110) rfl (tlt hc35).1 (by decide) (by decide) k) ?_
            have hdf36 : lookupswitch.offset [((-16), 241), ((-15), 241), ((-9), 241), ((-7), 253), ((-6), 235), ((-5), 235), ((-4), 259), ((-3), 259), ((-2), 259), ((-1), 241), (1, 241), (2, 235), (3, 235), (4, 235), (5, 235), (6, 235), (7, 235), (8, 235), (12, 241), (16, 253), (91, 247), (92, 247), (93, 247), (2004, 259), (2005, 241), (2011, 241), (2013, 247), (2014, 247)] 265 zv.toInt = 265 := own_dflt (by
              simp only [own_ltI] at hc2 hc3 hc34 hc35
              have e1 : (-16 : Int32).toInt = -16 := rfl
              have e2 : (16 : Int32).toInt = 16 := rfl
              have e3 : (91 : Int32).toInt = 91 := rfl
              have e4 : (93 : Int32).toInt = 93 := rfl
              have e5 : (2004 : Int32).toInt = 2004 := rfl
              have e6 : (2014 : Int32).toInt = 2014 := rfl
              omega)
            obtain ⟨T37, X37, e37, st37⟩ := getS2 X0 hx hZ hown (host := "") (Or.inl (ow1 hw)) Via.refl e0 S_O (g := (mkF m 129 #[.val (.int p0), .val (.int p1), .val (.int zm), .val (.int zv), .unset] [])) rfl (hb hby at_129)
            refine own_goW (T' := T37) (f' := (mkF m 135 #[.val (.int p0), .val (.int p1), .val (.int zm), .val (.int zv), .val (.ref wO)] [(.int zv)])) (fun _ k => st37 _ (XS.astore X37.here hx rfl (hb hby at_132) rfl rfl (l' := #[.val (.int p0), .val (.int p1), .val (.int zm), .val (.int zv), .val (.ref wO)]) rfl (XS.iloadN X37.here hx rfl (hb hby at_134) rfl k))) ?_
            obtain ⟨_, _, ⟨T38, L38, k38, n38⟩, -, X38, ⟨Lc38, hQ38, l38, y38, z38⟩, st38⟩ := Jvm.LawKit.callS X37 hx (y := mn5) hown (mvT hZ (ow4 hw)) (mvT hZ (ow5 hw)) (mvT hZ (ow2 hw)) (mvT hZ (ow6 hw)) (by decide) (backOf (W := 0) (rm1O l Z a0 hw [] zv wN wT wM wB wY wO h0 n0 Z0 S_N S_T S_M S_B S_Y S_O hdf36) hZ (ow6 hw) (ow2 hw) (by decide) (by decide)) (g := (mkF m 135 #[.val (.int p0), .val (.int p1), .val (.int zm), .val (.int zv), .val (.ref wO)] [(.int zv)])) rfl (by rw [hml]; rfl) (argsL := [(.int zv)]) (rest := []) (lenOf pd3 rfl) rfl (by show 2 * 0 + _ ≤ _; exact Nat.le_of_eq rfl) (hb hby at_135) (fun _ _ => ⟨rfl, e37, (by decide : 0 + 0 ≤ _), (by decide : 0 + 0 ≤ _)⟩)
            dsimp only [Pt.U, Pt.locs, Pt.cells, Pt.slots] at X38 l38 y38 z38 st38 hQ38
            subst l38 y38 z38
            obtain ⟨rfl, N38q, hh38⟩ := hQ38
            have N38 := Fr.app N0 N38q
            refine own_goW (T' := T38) (f' := (mkF m 148 #[.val (.int p0), .val (.int p1), .val (.int zm), .val (.int zv), .val (.ref wO)] [(.int (1 : Int32))])) (fun _ k => st38 _ (XS.aload X38.here hx rfl (hb hby at_138) rfl rfl (Jvm.RoadKit.acmp (g := (mkF m 140 #[.val (.int p0), .val (.int p1), .val (.int zm), .val (.int zv), .val (.ref wO)] [(.ref wO), (.ref wO)])) X38 hx rfl rfl rfl (pc0 := 140) (pc' := 143) (same := true) rfl (hb hby at_140) rfl (decide_eq_true rfl) (by decide) (by decide) (XS.iconst X38.here hx rfl (hb hby at_143) (XS.goto X38.here hx rfl (pc0 := 144) (pc' := 148) rfl (hb hby at_144) (by decide) (by decide) k))))) ?_
            refine own_retW X38 hS (by rw [hh38]; exact (Nat.le_refl _)) (v := some (.int (1 : Int32))) (fun h => by rw [Bd.returns] at h; cases h) Bd.notSynchronized (fun fs hr => retN X38 hx (t := .boolean) Bd.returns (by simp) (hb hby at_148) hr) ?_ (by decide) (by decide)
            show Q0 Z B p0 p1 cs fm wN wT wM wB wY wO h0 n0 _ T38.heap T38.vm _
            exact ⟨rfl, N38⟩
          · refine own_goW (T' := s₁) (f' := (mkF m 117 #[.val (.int p0), .val (.int p1), .val (.int zm), .val (.int zv), .unset] [(.int (2014 : Int32)), (.int zv)])) (fun _ k => XS.icmpNo X0.here hx rfl (hb hby at_110) rfl (flt hc35).1 (XS.iloadN X0.here hx rfl (hb hby at_113) rfl (XS.sipush X0.here hx rfl (hb hby at_114) k))) ?_
            by_cases hc39 : (2014 : Int32) < zv
            · refine own_goW (T' := s₁) (f' := (mkF m 129 #[.val (.int p0), .val (.int p1), .val (.int zm), .val (.int zv), .unset] [])) (fun _ k => XS.icmpYes X0.here hx rfl (pc0 := 117) (pc' := 129) rfl (hb hby at_117) rfl (tlt hc39).2.2.1 (by decide) (by decide) k) ?_
              have hdf40 : lookupswitch.offset [((-16), 241), ((-15), 241), ((-9), 241), ((-7), 253), ((-6), 235), ((-5), 235), ((-4), 259), ((-3), 259), ((-2), 259), ((-1), 241), (1, 241), (2, 235), (3, 235), (4, 235), (5, 235), (6, 235), (7, 235), (8, 235), (12, 241), (16, 253), (91, 247), (92, 247), (93, 247), (2004, 259), (2005, 241), (2011, 241), (2013, 247), (2014, 247)] 265 zv.toInt = 265 := own_dflt (by
                simp only [own_ltI] at hc2 hc3 hc34 hc35 hc39
                have e1 : (-16 : Int32).toInt = -16 := rfl
                have e2 : (16 : Int32).toInt = 16 := rfl
                have e3 : (91 : Int32).toInt = 91 := rfl
                have e4 : (93 : Int32).toInt = 93 := rfl
                have e5 : (2004 : Int32).toInt = 2004 := rfl
                have e6 : (2014 : Int32).toInt = 2014 := rfl
                omega)
              obtain ⟨T41, X41, e41, st41⟩ := getS2 X0 hx hZ hown (host := "") (Or.inl (ow1 hw)) Via.refl e0 S_O (g := (mkF m 129 #[.val (.int p0), .val (.int p1), .val (.int zm), .val (.int zv), .unset] [])) rfl (hb hby at_129)
              refine own_goW (T' := T41) (f' := (mkF m 135 #[.val (.int p0), .val (.int p1), .val (.int zm), .val (.int zv), .val (.ref wO)] [(.int zv)])) (fun _ k => st41 _ (XS.astore X41.here hx rfl (hb hby at_132) rfl rfl (l' := #[.val (.int p0), .val (.int p1), .val (.int zm), .val (.int zv), .val (.ref wO)]) rfl (XS.iloadN X41.here hx rfl (hb hby at_134) rfl k))) ?_
              obtain ⟨_, _, ⟨T42, L42, k42, n42⟩, -, X42, ⟨Lc42, hQ42, l42, y42, z42⟩, st42⟩ := Jvm.LawKit.callS X41 hx (y := mn5) hown (mvT hZ (ow4 hw)) (mvT hZ (ow5 hw)) (mvT hZ (ow2 hw)) (mvT hZ (ow6 hw)) (by decide) (backOf (W := 0) (rm1O l Z a0 hw [] zv wN wT wM wB wY wO h0 n0 Z0 S_N S_T S_M S_B S_Y S_O hdf40) hZ (ow6 hw) (ow2 hw) (by decide) (by decide)) (g := (mkF m 135 #[.val (.int p0), .val (.int p1), .val (.int zm), .val (.int zv), .val (.ref wO)] [(.int zv)])) rfl (by rw [hml]; rfl) (argsL := [(.int zv)]) (rest := []) (lenOf pd3 rfl) rfl (by show 2 * 0 + _ ≤ _; exact Nat.le_of_eq rfl) (hb hby at_135) (fun _ _ => ⟨rfl, e41, (by decide : 0 + 0 ≤ _), (by decide : 0 + 0 ≤ _)⟩)
              dsimp only [Pt.U, Pt.locs, Pt.cells, Pt.slots] at X42 l42 y42 z42 st42 hQ42
              subst l42 y42 z42
              obtain ⟨rfl, N42q, hh42⟩ := hQ42
              have N42 := Fr.app N0 N42q
              refine own_goW (T' := T42) (f' := (mkF m 148 #[.val (.int p0), .val (.int p1), .val (.int zm), .val (.int zv), .val (.ref wO)] [(.int (1 : Int32))])) (fun _ k => st42 _ (XS.aload X42.here hx rfl (hb hby at_138) rfl rfl (Jvm.RoadKit.acmp (g := (mkF m 140 #[.val (.int p0), .val (.int p1), .val (.int zm), .val (.int zv), .val (.ref wO)] [(.ref wO), (.ref wO)])) X42 hx rfl rfl rfl (pc0 := 140) (pc' := 143) (same := true) rfl (hb hby at_140) rfl (decide_eq_true rfl) (by decide) (by decide) (XS.iconst X42.here hx rfl (hb hby at_143) (XS.goto X42.here hx rfl (pc0 := 144) (pc' := 148) rfl (hb hby at_144) (by decide) (by decide) k))))) ?_
              refine own_retW X42 hS (by rw [hh42]; exact (Nat.le_refl _)) (v := some (.int (1 : Int32))) (fun h => by rw [Bd.returns] at h; cases h) Bd.notSynchronized (fun fs hr => retN X42 hx (t := .boolean) Bd.returns (by simp) (hb hby at_148) hr) ?_ (by decide) (by decide)
              show Q0 Z B p0 p1 cs fm wN wT wM wB wY wO h0 n0 _ T42.heap T42.vm _
              exact ⟨rfl, N42⟩
            · refine own_goW (T' := s₁) (f' := (mkF m 120 #[.val (.int p0), .val (.int p1), .val (.int zm), .val (.int zv), .unset] [])) (fun _ k => XS.icmpNo X0.here hx rfl (hb hby at_117) rfl (flt hc39).2.2.1 k) ?_
              rcases own_r3 hc35 hc39 with rfl | rfl | rfl | rfl | rfl | rfl | rfl | rfl | rfl | rfl | rfl
              · refine own_goW (T' := s₁) (f' := (mkF m 121 #[.val (.int p0), .val (.int p1), .val (.int zm), .val (.int (2004 : Int32)), .unset] [(.int (2004 : Int32))])) (fun _ k => XS.iloadN X0.here hx rfl (hb hby at_120) rfl k) ?_
                obtain ⟨_, _, ⟨T43, L43, k43, n43⟩, -, X43, hS43, hgr43, ⟨Lc43, hQ43, l43, y43, z43⟩, st43⟩ := callSS X0 hx (y := mn8) hown (mvT hZ (ow57 hw)) (mvT hZ (ow58 hw)) (mvT hZ (ow10 hw)) (mvT hZ (ow59 hw)) (by decide) (own_backS (W := 0) (rm9Y l Z a0 hw [] (s.setVm s.vm) (2004 : Int32) cs fm wN wT wM wB wY wO h0 n0 Z0 S_cs hcs S_fm hfm S_N S_T S_M S_B S_Y S_O I1 (fun _ _ q => by rw [hZh]; exact q) hcw hh21 (by decide) (by decide) (by decide +kernel)) hZ (ow59 hw) (ow10 hw) (by decide) (by decide)) (g := (mkF m 121 #[.val (.int p0), .val (.int p1), .val (.int zm), .val (.int (2004 : Int32)), .unset] [(.int (2004 : Int32))])) rfl (by rw [hml]; rfl) (argsL := [(.int (2004 : Int32))]) (rest := []) (lenOf pd3 rfl) rfl (by show 2 * 0 + _ ≤ _; exact Nat.le_of_eq rfl) (hb hby at_121) (fun _ _ => ⟨rfl, e0, (by decide : 0 + 2 ≤ _), (by decide : 0 + 48 ≤ _)⟩)
                dsimp only [Pt.U, Pt.locs, Pt.cells, Pt.slots] at X43 l43 y43 z43 st43 hQ43 hS43 hgr43
                subst l43 y43 z43
                have hM43 := hS43
                obtain ⟨X43, hS, hZ, hown⟩ := rebS hS (by rw [e0]; exact (Nat.le_refl _) : _ ≤ s₁.heap.size) X43 hM43 hgr43 hZ hown
                obtain ⟨rfl, N43q, K43⟩ := hQ43
                have N43 := Fr.app N0 N43q
                have KK43 : Keep h0 T43.heap [] := Keep.trans (Keep.refl h0 []) K43 all0
                refine own_goW (T' := T43) (f' := (mkF m 135 #[.val (.int p0), .val (.int p1), .val (.int zm), .val (.int (2004 : Int32)), .val (.ref wY)] [(.int (2004 : Int32))])) (fun _ k => st43.trans (XS.astore X43.here hx rfl (hb hby at_124) rfl rfl (l' := #[.val (.int p0), .val (.int p1), .val (.int zm), .val (.int (2004 : Int32)), .val (.ref wY)]) rfl (XS.goto X43.here hx rfl (pc0 := 126) (pc' := 134) rfl (hb hby at_126) (by decide) (by decide) (XS.iloadN X43.here hx rfl (hb hby at_134) rfl k)))) ?_
                obtain ⟨_, _, ⟨T44, L44, k44, n44⟩, -, X44, ⟨Lc44, hQ44, l44, y44, z44⟩, st44⟩ := Jvm.LawKit.callS X43 hx (y := mn5) hown (mvT hZ (ow4 hw)) (mvT hZ (ow5 hw)) (mvT hZ (ow2 hw)) (mvT hZ (ow6 hw)) (by decide) (backOf (W := 0) (rm1Y l Z a0 hw [] (2004 : Int32) wN wT wM wB wY wO T43.heap n0 (Nat.le_trans Z0 K43.1) (own_sta_keep S_N K43 own_ws0) (own_sta_keep S_T K43 own_ws0) (own_sta_keep S_M K43 own_ws0) (own_sta_keep S_B K43 own_ws0) (own_sta_keep S_Y K43 own_ws0) (own_sta_keep S_O K43 own_ws0) (by decide +kernel)) hZ (ow6 hw) (ow2 hw) (by decide) (by decide)) (g := (mkF m 135 #[.val (.int p0), .val (.int p1), .val (.int zm), .val (.int (2004 : Int32)), .val (.ref wY)] [(.int (2004 : Int32))])) rfl (by rw [hml]; rfl) (argsL := [(.int (2004 : Int32))]) (rest := []) (lenOf pd3 rfl) rfl (by show 2 * 0 + _ ≤ _; exact Nat.le_of_eq rfl) (hb hby at_135) (fun _ _ => ⟨rfl, rfl, (by decide : 2 + 0 ≤ _), (by decide : 48 + 0 ≤ _)⟩)
                dsimp only [Pt.U, Pt.locs, Pt.cells, Pt.slots] at X44 l44 y44 z44 st44 hQ44
                subst l44 y44 z44
                obtain ⟨rfl, N44q, hh44⟩ := hQ44
                have N44 := Fr.app N43 N44q
                refine own_goW (T' := T44) (f' := (mkF m 148 #[.val (.int p0), .val (.int p1), .val (.int zm), .val (.int (2004 : Int32)), .val (.ref wY)] [(.int (1 : Int32))])) (fun _ k => st44 _ (XS.aload X44.here hx rfl (hb hby at_138) rfl rfl (Jvm.RoadKit.acmp (g := (mkF m 140 #[.val (.int p0), .val (.int p1), .val (.int zm), .val (.int (2004 : Int32)), .val (.ref wY)] [(.ref wY), (.ref wY)])) X44 hx rfl rfl rfl (pc0 := 140) (pc' := 143) (same := true) rfl (hb hby at_140) rfl (decide_eq_true rfl) (by decide) (by decide) (XS.iconst X44.here hx rfl (hb hby at_143) (XS.goto X44.here hx rfl (pc0 := 144) (pc' := 148) rfl (hb hby at_144) (by decide) (by decide) k))))) ?_
                refine own_retW X44 hS (by rw [hh44]; exact (Nat.le_refl _)) (v := some (.int (1 : Int32))) (fun h => by rw [Bd.returns] at h; cases h) Bd.notSynchronized (fun fs hr => retN X44 hx (t := .boolean) Bd.returns (by simp) (hb hby at_148) hr) ?_ (by decide) (by decide)
                show Q0 Z B p0 p1 cs fm wN wT wM wB wY wO h0 n0 _ T44.heap T44.vm _
                exact ⟨rfl, N44⟩
              · refine own_goW (T' := s₁) (f' := (mkF m 121 #[.val (.int p0), .val (.int p1), .val (.int zm), .val (.int (2005 : Int32)), .unset] [(.int (2005 : Int32))])) (fun _ k => XS.iloadN X0.here hx rfl (hb hby at_120) rfl k) ?_
                obtain ⟨_, _, ⟨T45, L45, k45, n45⟩, -, X45, hS45, hgr45, ⟨Lc45, hQ45, l45, y45, z45⟩, st45⟩ := callSS X0 hx (y := mn8) hown (mvT hZ (ow57 hw)) (mvT hZ (ow58 hw)) (mvT hZ (ow10 hw)) (mvT hZ (ow59 hw)) (by decide) (own_backS (W := 0) (rm9T l Z a0 hw [] (s.setVm s.vm) (2005 : Int32) cs fm wN wT wM wB wY wO h0 n0 Z0 S_cs hcs S_fm hfm S_N S_T S_M S_B S_Y S_O I1 (fun _ _ q => by rw [hZh]; exact q) hcw hh21 (by decide) (by decide) (by decide +kernel)) hZ (ow59 hw) (ow10 hw) (by decide) (by decide)) (g := (mkF m 121 #[.val (.int p0), .val (.int p1), .val (.int zm), .val (.int (2005 : Int32)), .unset] [(.int (2005 : Int32))])) rfl (by rw [hml]; rfl) (argsL := [(.int (2005 : Int32))]) (rest := []) (lenOf pd3 rfl) rfl (by show 2 * 0 + _ ≤ _; exact Nat.le_of_eq rfl) (hb hby at_121) (fun _ _ => ⟨rfl, e0, (by decide : 0 + 2 ≤ _), (by decide : 0 + 48 ≤ _)⟩)
                dsimp only [Pt.U, Pt.locs, Pt.cells, Pt.slots] at X45 l45 y45 z45 st45 hQ45 hS45 hgr45
                subst l45 y45 z45
                have hM45 := hS45
                obtain ⟨X45, hS, hZ, hown⟩ := rebS hS (by rw [e0]; exact (Nat.le_refl _) : _ ≤ s₁.heap.size) X45 hM45 hgr45 hZ hown
                obtain ⟨rfl, N45q, K45⟩ := hQ45
                have N45 := Fr.app N0 N45q
                have KK45 : Keep h0 T45.heap [] := Keep.trans (Keep.refl h0 []) K45 all0
                refine own_goW (T' := T45) (f' := (mkF m 135 #[.val (.int p0), .val (.int p1), .val (.int zm), .val (.int (2005 : Int32)), .val (.ref wT)] [(.int (2005 : Int32))])) (fun _ k => st45.trans (XS.astore X45.here hx rfl (hb hby at_124) rfl rfl (l' := #[.val (.int p0), .val (.int p1), .val (.int zm), .val (.int (2005 : Int32)), .val (.ref wT)]) rfl (XS.goto X45.here hx rfl (pc0 := 126) (pc' := 134) rfl (hb hby at_126) (by decide) (by decide) (XS.iloadN X45.here hx rfl (hb hby at_134) rfl k)))) ?_
                obtain ⟨_, _, ⟨T46, L46, k46, n46⟩, -, X46, ⟨Lc46, hQ46, l46, y46, z46⟩, st46⟩ := Jvm.LawKit.callS X45 hx (y := mn5) hown (mvT hZ (ow4 hw)) (mvT hZ (ow5 hw)) (mvT hZ (ow2 hw)) (mvT hZ (ow6 hw)) (by decide) (backOf (W := 0) (rm1T l Z a0 hw [] (2005 : Int32) wN wT wM wB wY wO T45.heap n0 (Nat.le_trans Z0 K45.1) (own_sta_keep S_N K45 own_ws0) (own_sta_keep S_T K45 own_ws0) (own_sta_keep S_M K45 own_ws0) (own_sta_keep S_B K45 own_ws0) (own_sta_keep S_Y K45 own_ws0) (own_sta_keep S_O K45 own_ws0) (by decide +kernel)) hZ (ow6 hw) (ow2 hw) (by decide) (by decide)) (g := (mkF m 135 #[.val (.int p0), .val (.int p1), .val (.int zm), .val (.int (2005 : Int32)), .val (.ref wT)] [(.int (2005 : Int32))])) rfl (by rw [hml]; rfl) (argsL := [(.int (2005 : Int32))]) (rest := []) (lenOf pd3 rfl) rfl (by show 2 * 0 + _ ≤ _; exact Nat.le_of_eq rfl) (hb hby at_135) (fun _ _ => ⟨rfl, rfl, (by decide : 2 + 0 ≤ _), (by decide : 48 + 0 ≤ _)⟩)
                dsimp only [Pt.U, Pt.locs, Pt.cells, Pt.slots] at X46 l46 y46 z46 st46 hQ46
                subst l46 y46 z46
                obtain ⟨rfl, N46q, hh46⟩ := hQ46
                have N46 := Fr.app N45 N46q
                refine own_goW (T' := T46) (f' := (mkF m 148 #[.val (.int p0), .val (.int p1), .val (.int zm), .val (.int (2005 : Int32)), .val (.ref wT)] [(.int (1 : Int32))])) (fun _ k => st46 _ (XS.aload X46.here hx rfl (hb hby at_138) rfl rfl (Jvm.RoadKit.acmp (g := (mkF m 140 #[.val (.int p0), .val (.int p1), .val (.int zm), .val (.int (2005 : Int32)), .val (.ref wT)] [(.ref wT), (.ref wT)])) X46 hx rfl rfl rfl (pc0 := 140) (pc' := 143) (same := true) rfl (hb hby at_140) rfl (decide_eq_true rfl) (by decide) (by decide) (XS.iconst X46.here hx rfl (hb hby at_143) (XS.goto X46.here hx rfl (pc0 := 144) (pc' := 148) rfl (hb hby at_144) (by decide) (by decide) k))))) ?_
                refine own_retW X46 hS (by rw [hh46]; exact (Nat.le_refl _)) (v := some (.int (1 : Int32))) (fun h => by rw [Bd.returns] at h; cases h) Bd.notSynchronized (fun fs hr => retN X46 hx (t := .boolean) Bd.returns (by simp) (hb hby at_148) hr) ?_ (by decide) (by decide)
                show Q0 Z B p0 p1 cs fm wN wT wM wB wY wO h0 n0 _ T46.heap T46.vm _
                exact ⟨rfl, N46⟩
              · refine own_goW (T' := s₁) (f' := (mkF m 121 #[.val (.int p0), .val (.int p1), .val (.int zm), .val (.int (2006 : Int32)), .unset] [(.int (2006 : Int32))])) (fun _ k => XS.iloadN X0.here hx rfl (hb hby at_120) rfl k) ?_
                obtain ⟨_, _, ⟨T47, L47, k47, n47⟩, -, X47, hS47, hgr47, ⟨Lc47, hQ47, l47, y47, z47⟩, st47⟩ := callSS X0 hx (y := mn8) hown (mvT hZ (ow57 hw)) (mvT hZ (ow58 hw)) (mvT hZ (ow10 hw)) (mvT hZ (ow59 hw)) (by decide) (own_backS (W := 0) (rm9O l Z a0 hw [] (s.setVm s.vm) (2006 : Int32) cs fm wN wT wM wB wY wO h0 n0 Z0 S_cs hcs S_fm hfm S_N S_T S_M S_B S_Y S_O I1 (fun _ _ q => by rw [hZh]; exact q) hcw hh21 (by decide) (by decide) (by decide +kernel)) hZ (ow59 hw) (ow10 hw) (by decide) (by decide)) (g := (mkF m 121 #[.val (.int p0), .val (.int p1), .val (.int zm), .val (.int (2006 : Int32)), .unset] [(.int (2006 : Int32))])) rfl (by rw [hml]; rfl) (argsL := [(.int (2006 : Int32))]) (rest := []) (lenOf pd3 rfl) rfl (by show 2 * 0 + _ ≤ _; exact Nat.le_of_eq rfl) (hb hby at_121) (fun _ _ => ⟨rfl, e0, (by decide : 0 + 2 ≤ _), (by decide : 0 + 48 ≤ _)⟩)
                dsimp only [Pt.U, Pt.locs, Pt.cells, Pt.slots] at X47 l47 y47 z47 st47 hQ47 hS47 hgr47
                subst l47 y47 z47
                have hM47 := hS47
                obtain ⟨X47, hS, hZ, hown⟩ := rebS hS (by rw [e0]; exact (Nat.le_refl _) : _ ≤ s₁.heap.size) X47 hM47 hgr47 hZ hown
                obtain ⟨rfl, N47q, K47⟩ := hQ47
                have N47 := Fr.app N0 N47q
                have KK47 : Keep h0 T47.heap [] := Keep.trans (Keep.refl h0 []) K47 all0
                refine own_goW (T' := T47) (f' := (mkF m 135 #[.val (.int p0), .val (.int p1), .val (.int zm), .val (.int (2006 : Int32)), .val (.ref wO)] [(.int (2006 : Int32))])) (fun _ k => st47.trans (XS.astore X47.here hx rfl (hb hby at_124) rfl rfl (l' := #[.val (.int p0), .val (.int p1), .val (.int zm), .val (.int (2006 : Int32)), .val (.ref wO)]) rfl (XS.goto X47.here hx rfl (pc0 := 126) (pc' := 134) rfl (hb hby at_126) (by decide) (by decide) (XS.iloadN X47.here hx rfl (hb hby at_134) rfl k)))) ?_
                obtain ⟨_, _, ⟨T48, L48, k48, n48⟩, -, X48, ⟨Lc48, hQ48, l48, y48, z48⟩, st48⟩ := Jvm.LawKit.callS X47 hx (y := mn5) hown (mvT hZ (ow4 hw)) (mvT hZ (ow5 hw)) (mvT hZ (ow2 hw)) (mvT hZ (ow6 hw)) (by decide) (backOf (W := 0) (rm1O l Z a0 hw [] (2006 : Int32) wN wT wM wB wY wO T47.heap n0 (Nat.le_trans Z0 K47.1) (own_sta_keep S_N K47 own_ws0) (own_sta_keep S_T K47 own_ws0) (own_sta_keep S_M K47 own_ws0) (own_sta_keep S_B K47 own_ws0) (own_sta_keep S_Y K47 own_ws0) (own_sta_keep S_O K47 own_ws0) (by decide +kernel)) hZ (ow6 hw) (ow2 hw) (by decide) (by decide)) (g := (mkF m 135 #[.val (.int p0), .val (.int p1), .val (.int zm), .val (.int (2006 : Int32)), .val (.ref wO)] [(.int (2006 : Int32))])) rfl (by rw [hml]; rfl) (argsL := [(.int (2006 : Int32))]) (rest := []) (lenOf pd3 rfl) rfl (by show 2 * 0 + _ ≤ _; exact Nat.le_of_eq rfl) (hb hby at_135) (fun _ _ => ⟨rfl, rfl, (by decide : 2 + 0 ≤ _), (by decide : 48 + 0 ≤ _)⟩)
                dsimp only [Pt.U, Pt.locs, Pt.cells, Pt.slots] at X48 l48 y48 z48 st48 hQ48
                subst l48 y48 z48
                obtain ⟨rfl, N48q, hh48⟩ := hQ48
                have N48 := Fr.app N47 N48q
                refine own_goW (T' := T48) (f' := (mkF m 148 #[.val (.int p0), .val (.int p1), .val (.int zm), .val (.int (2006 : Int32)), .val (.ref wO)] [(.int (1 : Int32))])) (fun _ k => st48 _ (XS.aload X48.here hx rfl (hb hby at_138) rfl rfl (Jvm.RoadKit.acmp (g := (mkF m 140 #[.val (.int p0), .val (.int p1), .val (.int zm), .val (.int (2006 : Int32)), .val (.ref wO)] [(.ref wO), (.ref wO)])) X48 hx rfl rfl rfl (pc0 := 140) (pc' := 143) (same := true) rfl (hb hby at_140) rfl (decide_eq_true rfl) (by decide) (by decide) (XS.iconst X48.here hx rfl (hb hby at_143) (XS.goto X48.here hx rfl (pc0 := 144) (pc' := 148) rfl (hb hby at_144) (by decide) (by decide) k))))) ?_
                refine own_retW X48 hS (by rw [hh48]; exact (Nat.le_refl _)) (v := some (.int (1 : Int32))) (fun h => by rw [Bd.returns] at h; cases h) Bd.notSynchronized (fun fs hr => retN X48 hx (t := .boolean) Bd.returns (by simp) (hb hby at_148) hr) ?_ (by decide) (by decide)
                show Q0 Z B p0 p1 cs fm wN wT wM wB wY wO h0 n0 _ T48.heap T48.vm _
                exact ⟨rfl, N48⟩
              · refine own_goW (T' := s₁) (f' := (mkF m 121 #[.val (.int p0), .val (.int p1), .val (.int zm), .val (.int (2007 : Int32)), .unset] [(.int (2007 : Int32))])) (fun _ k => XS.iloadN X0.here hx rfl (hb hby at_120) rfl k) ?_
                obtain ⟨_, _, ⟨T49, L49, k49, n49⟩, -, X49, hS49, hgr49, ⟨Lc49, hQ49, l49, y49, z49⟩, st49⟩ := callSS X0 hx (y := mn8) hown (mvT hZ (ow57 hw)) (mvT hZ (ow58 hw)) (mvT hZ (ow10 hw)) (mvT hZ (ow59 hw)) (by decide) (own_backS (W := 0) (rm9O l Z a0 hw [] (s.setVm s.vm) (2007 : Int32) cs fm wN wT wM wB wY wO h0 n0 Z0 S_cs hcs S_fm hfm S_N S_T S_M S_B S_Y S_O I1 (fun _ _ q => by rw [hZh]; exact q) hcw hh21 (by decide) (by decide) (by decide +kernel)) hZ (ow59 hw) (ow10 hw) (by decide) (by decide)) (g := (mkF m 121 #[.val (.int p0), .val (.int p1), .val (.int zm), .val (.int (2007 : Int32)), .unset] [(.int (2007 : Int32))])) rfl (by rw [hml]; rfl) (argsL := [(.int (2007 : Int32))]) (rest := []) (lenOf pd3 rfl) rfl (by show 2 * 0 + _ ≤ _; exact Nat.le_of_eq rfl) (hb hby at_121) (fun _ _ => ⟨rfl, e0, (by decide : 0 + 2 ≤ _), (by decide : 0 + 48 ≤ _)⟩)
                dsimp only [Pt.U, Pt.locs, Pt.cells, Pt.slots] at X49 l49 y49 z49 st49 hQ49 hS49 hgr49
                subst l49 y49 z49
                have hM49 := hS49
                obtain ⟨X49, hS, hZ, hown⟩ := rebS hS (by rw [e0]; exact (Nat.le_refl _) : _ ≤ s₁.heap.size) X49 hM49 hgr49 hZ hown
                obtain ⟨rfl, N49q, K49⟩ := hQ49
                have N49 := Fr.app N0 N49q
                have KK49 : Keep h0 T49.heap [] := Keep.trans (Keep.refl h0 []) K49 all0
                refine own_goW (T' := T49) (f' := (mkF m 135 #[.val (.int p0), .val (.int p1), .val (.int zm), .val (.int (2007 : Int32)), .val (.ref wO)] [(.int (2007 : Int32))])) (fun _ k => st49.trans (XS.astore X49.here hx rfl (hb hby at_124) rfl rfl (l' := #[.val (.int p0), .val (.int p1), .val (.int zm), .val (.int (2007 : Int32)), .val (.ref wO)]) rfl (XS.goto X49.here hx rfl (pc0 := 126) (pc' := 134) rfl (hb hby at_126) (by decide) (by decide) (XS.iloadN X49.here hx rfl (hb hby at_134) rfl k)))) ?_
                obtain ⟨_, _, ⟨T50, L50, k50, n50⟩, -, X50, ⟨Lc50, hQ50, l50, y50, z50⟩, st50⟩ := Jvm.LawKit.callS X49 hx (y := mn5) hown (mvT hZ (ow4 hw)) (mvT hZ (ow5 hw)) (mvT hZ (ow2 hw)) (mvT hZ (ow6 hw)) (by decide) (backOf (W := 0) (rm1O l Z a0 hw [] (2007 : Int32) wN wT wM wB wY wO T49.heap n0 (Nat.le_trans Z0 K49.1) (own_sta_keep S_N K49 own_ws0) (own_sta_keep S_T K49 own_ws0) (own_sta_keep S_M K49 own_ws0) (own_sta_keep S_B K49 own_ws0) (own_sta_keep S_Y K49 own_ws0) (own_sta_keep S_O K49 own_ws0) (by decide +kernel)) hZ (ow6 hw) (ow2 hw) (by decide) (by decide)) (g := (mkF m 135 #[.val (.int p0), .val (.int p1), .val (.int zm), .val (.int (2007 : Int32)), .val (.ref wO)] [(.int (2007 : Int32))])) rfl (by rw [hml]; rfl) (argsL := [(.int (2007 : Int32))]) (rest := []) (lenOf pd3 rfl) rfl (by show 2 * 0 + _ ≤ _; exact Nat.le_of_eq rfl) (hb hby at_135) (fun _ _ => ⟨rfl, rfl, (by decide : 2 + 0 ≤ _), (by decide : 48 + 0 ≤ _)⟩)
                dsimp only [Pt.U, Pt.locs, Pt.cells, Pt.slots] at X50 l50 y50 z50 st50 hQ50
                subst l50 y50 z50
                obtain ⟨rfl, N50q, hh50⟩ := hQ50
                have N50 := Fr.app N49 N50q
                refine own_goW (T' := T50) (f' := (mkF m 148 #[.val (.int p0), .val (.int p1), .val (.int zm), .val (.int (2007 : Int32)), .val (.ref wO)] [(.int (1 : Int32))])) (fun _ k => st50 _ (XS.aload X50.here hx rfl (hb hby at_138) rfl rfl (Jvm.RoadKit.acmp (g := (mkF m 140 #[.val (.int p0), .val (.int p1), .val (.int zm), .val (.int (2007 : Int32)), .val (.ref wO)] [(.ref wO), (.ref wO)])) X50 hx rfl rfl rfl (pc0 := 140) (pc' := 143) (same := true) rfl (hb hby at_140) rfl (decide_eq_true rfl) (by decide) (by decide) (XS.iconst X50.here hx rfl (hb hby at_143) (XS.goto X50.here hx rfl (pc0 := 144) (pc' := 148) rfl (hb hby at_144) (by decide) (by decide) k))))) ?_
                refine own_retW X50 hS (by rw [hh50]; exact (Nat.le_refl _)) (v := some (.int (1 : Int32))) (fun h => by rw [Bd.returns] at h; cases h) Bd.notSynchronized (fun fs hr => retN X50 hx (t := .boolean) Bd.returns (by simp) (hb hby at_148) hr) ?_ (by decide) (by decide)
                show Q0 Z B p0 p1 cs fm wN wT wM wB wY wO h0 n0 _ T50.heap T50.vm _
                exact ⟨rfl, N50⟩
              · refine own_goW (T' := s₁) (f' := (mkF m 121 #[.val (.int p0), .val (.int p1), .val (.int zm), .val (.int (2008 : Int32)), .unset] [(.int (2008 : Int32))])) (fun _ k => XS.iloadN X0.here hx rfl (hb hby at_120) rfl k) ?_
                obtain ⟨_, _, ⟨T51, L51, k51, n51⟩, -, X51, hS51, hgr51, ⟨Lc51, hQ51, l51, y51, z51⟩, st51⟩ := callSS X0 hx (y := mn8) hown (mvT hZ (ow57 hw)) (mvT hZ (ow58 hw)) (mvT hZ (ow10 hw)) (mvT hZ (ow59 hw)) (by decide) (own_backS (W := 0) (rm9O l Z a0 hw [] (s.setVm s.vm) (2008 : Int32) cs fm wN wT wM wB wY wO h0 n0 Z0 S_cs hcs S_fm hfm S_N S_T S_M S_B S_Y S_O I1 (fun _ _ q => by rw [hZh]; exact q) hcw hh21 (by decide) (by decide) (by decide +kernel)) hZ (ow59 hw) (ow10 hw) (by decide) (by decide)) (g := (mkF m 121 #[.val (.int p0), .val (.int p1), .val (.int zm), .val (.int (2008 : Int32)), .unset] [(.int (2008 : Int32))])) rfl (by rw [hml]; rfl) (argsL := [(.int (2008 : Int32))]) (rest := []) (lenOf pd3 rfl) rfl (by show 2 * 0 + _ ≤ _; exact Nat.le_of_eq rfl) (hb hby at_121) (fun _ _ => ⟨rfl, e0, (by decide : 0 + 2 ≤ _), (by decide : 0 + 48 ≤ _)⟩)
                dsimp only [Pt.U, Pt.locs, Pt.cells, Pt.slots] at X51 l51 y51 z51 st51 hQ51 hS51 hgr51
                subst l51 y51 z51
                have hM51 := hS51
                obtain ⟨X51, hS, hZ, hown⟩ := rebS hS (by rw [e0]; exact (Nat.le_refl _) : _ ≤ s₁.heap.size) X51 hM51 hgr51 hZ hown
                obtain ⟨rfl, N51q, K51⟩ := hQ51
                have N51 := Fr.app N0 N51q
                have KK51 : Keep h0 T51.heap [] := Keep.trans (Keep.refl h0 []) K51 all0
                refine own_goW (T' := T51) (f' := (mkF m 135 #[.val (.int p0), .val (.int p1), .val (.int zm), .val (.int (2008 : Int32)), .val (.ref wO)] [(.int (2008 : Int32))])) (fun _ k => st51.trans (XS.astore X51.here hx rfl (hb hby at_124) rfl rfl (l' := #[.val (.int p0), .val (.int p1), .val (.int zm), .val (.int (2008 : Int32)), .val (.ref wO)]) rfl (XS.goto X51.here hx rfl (pc0 := 126) (pc' := 134) rfl (hb hby at_126) (by decide) (by decide) (XS.iloadN X51.here hx rfl (hb hby at_134) rfl k)))) ?_
                obtain ⟨_, _, ⟨T52, L52, k52, n52⟩, -, X52, ⟨Lc52, hQ52, l52, y52, z52⟩, st52⟩ := Jvm.LawKit.callS X51 hx (y := mn5) hown (mvT hZ (ow4 hw)) (mvT hZ (ow5 hw)) (mvT hZ (ow2 hw)) (mvT hZ (ow6 hw)) (by decide) (backOf (W := 0) (rm1O l Z a0 hw [] (2008 : Int32) wN wT wM wB wY wO T51.heap n0 (Nat.le_trans Z0 K51.1) (own_sta_keep S_N K51 own_ws0) (own_sta_keep S_T K51 own_ws0) (own_sta_keep S_M K51 own_ws0) (own_sta_keep S_B K51 own_ws0) (own_sta_keep S_Y K51 own_ws0) (own_sta_keep S_O K51 own_ws0) (by decide +kernel)) hZ (ow6 hw) (ow2 hw) (by decide) (by decide)) (g := (mkF m 135 #[.val (.int p0), .val (.int p1), .val (.int zm), .val (.int (2008 : Int32)), .val (.ref wO)] [(.int (2008 : Int32))])) rfl (by rw [hml]; rfl) (argsL := [(.int (2008 : Int32))]) (rest := []) (lenOf pd3 rfl) rfl (by show 2 * 0 + _ ≤ _; exact Nat.le_of_eq rfl) (hb hby at_135) (fun _ _ => ⟨rfl, rfl, (by decide : 2 + 0 ≤ _), (by decide : 48 + 0 ≤ _)⟩)
                dsimp only [Pt.U, Pt.locs, Pt.cells, Pt.slots] at X52 l52 y52 z52 st52 hQ52
                subst l52 y52 z52
                obtain ⟨rfl, N52q, hh52⟩ := hQ52
                have N52 := Fr.app N51 N52q
                refine own_goW (T' := T52) (f' := (mkF m 148 #[.val (.int p0), .val (.int p1), .val (.int zm), .val (.int (2008 : Int32)), .val (.ref wO)] [(.int (1 : Int32))])) (fun _ k => st52 _ (XS.aload X52.here hx rfl (hb hby at_138) rfl rfl (Jvm.RoadKit.acmp (g := (mkF m 140 #[.val (.int p0), .val (.int p1), .val (.int zm), .val (.int (2008 : Int32)), .val (.ref wO)] [(.ref wO), (.ref wO)])) X52 hx rfl rfl rfl (pc0 := 140) (pc' := 143) (same := true) rfl (hb hby at_140) rfl (decide_eq_true rfl) (by decide) (by decide) (XS.iconst X52.here hx rfl (hb hby at_143) (XS.goto X52.here hx rfl (pc0 := 144) (pc' := 148) rfl (hb hby at_144) (by decide) (by decide) k))))) ?_
                refine own_retW X52 hS (by rw [hh52]; exact (Nat.le_refl _)) (v := some (.int (1 : Int32))) (fun h => by rw [Bd.returns] at h; cases h) Bd.notSynchronized (fun fs hr => retN X52 hx (t := .boolean) Bd.returns (by simp) (hb hby at_148) hr) ?_ (by decide) (by decide)
                show Q0 Z B p0 p1 cs fm wN wT wM wB wY wO h0 n0 _ T52.heap T52.vm _
                exact ⟨rfl, N52⟩
              · refine own_goW (T' := s₁) (f' := (mkF m 121 #[.val (.int p0), .val (.int p1), .val (.int zm), .val (.int (2009 : Int32)), .unset] [(.int (2009 : Int32))])) (fun _ k => XS.iloadN X0.here hx rfl (hb hby at_120) rfl k) ?_
                obtain ⟨_, _, ⟨T53, L53, k53, n53⟩, -, X53, hS53, hgr53, ⟨Lc53, hQ53, l53, y53, z53⟩, st53⟩ := callSS X0 hx (y := mn8) hown (mvT hZ (ow57 hw)) (mvT hZ (ow58 hw)) (mvT hZ (ow10 hw)) (mvT hZ (ow59 hw)) (by decide) (own_backS (W := 0) (rm9O l Z a0 hw [] (s.setVm s.vm) (2009 : Int32) cs fm wN wT wM wB wY wO h0 n0 Z0 S_cs hcs S_fm hfm S_N S_T S_M S_B S_Y S_O I1 (fun _ _ q => by rw [hZh]; exact q) hcw hh21 (by decide) (by decide) (by decide +kernel)) hZ (ow59 hw) (ow10 hw) (by decide) (by decide)) (g := (mkF m 121 #[.val (.int p0), .val (.int p1), .val (.int zm), .val (.int (2009 : Int32)), .unset] [(.int (2009 : Int32))])) rfl (by rw [hml]; rfl) (argsL := [(.int (2009 : Int32))]) (rest := []) (lenOf pd3 rfl) rfl (by show 2 * 0 + _ ≤ _; exact Nat.le_of_eq rfl) (hb hby at_121) (fun _ _ => ⟨rfl, e0, (by decide : 0 + 2 ≤ _), (by decide : 0 + 48 ≤ _)⟩)
                dsimp only [Pt.U, Pt.locs, Pt.cells, Pt.slots] at X53 l53 y53 z53 st53 hQ53 hS53 hgr53
                subst l53 y53 z53
                have hM53 := hS53
                obtain ⟨X53, hS, hZ, hown⟩ := rebS hS (by rw [e0]; exact (Nat.le_refl _) : _ ≤ s₁.heap.size) X53 hM53 hgr53 hZ hown
                obtain ⟨rfl, N53q, K53⟩ := hQ53
                have N53 := Fr.app N0 N53q
                have KK53 : Keep h0 T53.heap [] := Keep.trans (Keep.refl h0 []) K53 all0
                refine own_goW (T' := T53) (f' := (mkF m 135 #[.val (.int p0), .val (.int p1), .val (.int zm), .val (.int (2009 : Int32)), .val (.ref wO)] [(.int (2009 : Int32))])) (fun _ k => st53.trans (XS.astore X53.here hx rfl (hb hby at_124) rfl rfl (l' := #[.val (.int p0), .val (.int p1), .val (.int zm), .val (.int (2009 : Int32)), .val (.ref wO)]) rfl (XS.goto X53.here hx rfl (pc0 := 126) (pc' := 134) rfl (hb hby at_126) (by decide) (by decide) (XS.iloadN X53.here hx rfl (hb hby at_134) rfl k)))) ?_
                obtain ⟨_, _, ⟨T54, L54, k54, n54⟩, -, X54, ⟨Lc54, hQ54, l54, y54, z54⟩, st54⟩ := Jvm.LawKit.callS X53 hx (y := mn5) hown (mvT hZ (ow4 hw)) (mvT hZ (ow5 hw)) (mvT hZ (ow2 hw)) (mvT hZ (ow6 hw)) (by decide) (backOf (W := 0) (rm1O l Z a0 hw [] (2009 : Int32) wN wT wM wB wY wO T53.heap n0 (Nat.le_trans Z0 K53.1) (own_sta_keep S_N K53 own_ws0) (own_sta_keep S_T K53 own_ws0) (own_sta_keep S_M K53 own_ws0) (own_sta_keep S_B K53 own_ws0) (own_sta_keep S_Y K53 own_ws0) (own_sta_keep S_O K53 own_ws0) (by decide +kernel)) hZ (ow6 hw) (ow2 hw) (by decide) (by decide)) (g := (mkF m 135 #[.val (.int p0), .val (.int p1), .val (.int zm), .val (.int (2009 : Int32)), .val (.ref wO)] [(.int (2009 : Int32))])) rfl (by rw [hml]; rfl) (argsL := [(.int (2009 : Int32))]) (rest := []) (lenOf pd3 rfl) rfl (by show 2 * 0 + _ ≤ _; exact Nat.le_of_eq rfl) (hb hby at_135) (fun _ _ => ⟨rfl, rfl, (by decide : 2 + 0 ≤ _), (by decide : 48 + 0 ≤ _)⟩)
                dsimp only [Pt.U, Pt.locs, Pt.cells, Pt.slots] at X54 l54 y54 z54 st54 hQ54
                subst l54 y54 z54
                obtain ⟨rfl, N54q, hh54⟩ := hQ54
                have N54 := Fr.app N53 N54q
                refine own_goW (T' := T54) (f' := (mkF m 148 #[.val (.int p0), .val (.int p1), .val (.int zm), .val (.int (2009 : Int32)), .val (.ref wO)] [(.int (1 : Int32))])) (fun _ k => st54 _ (XS.aload X54.here hx rfl (hb hby at_138) rfl rfl (Jvm.RoadKit.acmp (g := (mkF m 140 #[.val (.int p0), .val (.int p1), .val (.int zm), .val (.int (2009 : Int32)), .val (.ref wO)] [(.ref wO), (.ref wO)])) X54 hx rfl rfl rfl (pc0 := 140) (pc' := 143) (same := true) rfl (hb hby at_140) rfl (decide_eq_true rfl) (by decide) (by decide) (XS.iconst X54.here hx rfl (hb hby at_143) (XS.goto X54.here hx rfl (pc0 := 144) (pc' := 148) rfl (hb hby at_144) (by decide) (by decide) k))))) ?_
                refine own_retW X54 hS (by rw [hh54]; exact (Nat.le_refl _)) (v := some (.int (1 : Int32))) (fun h => by rw [Bd.returns] at h; cases h) Bd.notSynchronized (fun fs hr => retN X54 hx (t := .boolean) Bd.returns (by simp) (hb hby at_148) hr) ?_ (by decide) (by decide)
                show Q0 Z B p0 p1 cs fm wN wT wM wB wY wO h0 n0 _ T54.heap T54.vm _
                exact ⟨rfl, N54⟩
              · refine own_goW (T' := s₁) (f' := (mkF m 121 #[.val (.int p0), .val (.int p1), .val (.int zm), .val (.int (2010 : Int32)), .unset] [(.int (2010 : Int32))])) (fun _ k => XS.iloadN X0.here hx rfl (hb hby at_120) rfl k) ?_
                obtain ⟨_, _, ⟨T55, L55, k55, n55⟩, -, X55, hS55, hgr55, ⟨Lc55, hQ55, l55, y55, z55⟩, st55⟩ := callSS X0 hx (y := mn8) hown (mvT hZ (ow57 hw)) (mvT hZ (ow58 hw)) (mvT hZ (ow10 hw)) (mvT hZ (ow59 hw)) (by decide) (own_backS (W := 0) (rm9O l Z a0 hw [] (s.setVm s.vm) (2010 : Int32) cs fm wN wT wM wB wY wO h0 n0 Z0 S_cs hcs S_fm hfm S_N S_T S_M S_B S_Y S_O I1 (fun _ _ q => by rw [hZh]; exact q) hcw hh21 (by decide) (by decide) (by decide +kernel)) hZ (ow59 hw) (ow10 hw) (by decide) (by decide)) (g := (mkF m 121 #[.val (.int p0), .val (.int p1), .val (.int zm), .val (.int (2010 : Int32)), .unset] [(.int (2010 : Int32))])) rfl (by rw [hml]; rfl) (argsL := [(.int (2010 : Int32))]) (rest := []) (lenOf pd3 rfl) rfl (by show 2 * 0 + _ ≤ _; exact Nat.le_of_eq rfl) (hb hby at_121) (fun _ _ => ⟨rfl, e0, (by decide : 0 + 2 ≤ _), (by decide : 0 + 48 ≤ _)⟩)
                dsimp only [Pt.U, Pt.locs, Pt.cells, Pt.slots] at X55 l55 y55 z55 st55 hQ55 hS55 hgr55
                subst l55 y55 z55
                have hM55 := hS55
                obtain ⟨X55, hS, hZ, hown⟩ := rebS hS (by rw [e0]; exact (Nat.le_refl _) : _ ≤ s₁.heap.size) X55 hM55 hgr55 hZ hown
                obtain ⟨rfl, N55q, K55⟩ := hQ55
                have N55 := Fr.app N0 N55q
                have KK55 : Keep h0 T55.heap [] := Keep.trans (Keep.refl h0 []) K55 all0
                refine own_goW (T' := T55) (f' := (mkF m 135 #[.val (.int p0), .val (.int p1), .val (.int zm), .val (.int (2010 : Int32)), .val (.ref wO)] [(.int (2010 : Int32))])) (fun _ k => st55.trans (XS.astore X55.here hx rfl (hb hby at_124) rfl rfl (l' := #[.val (.int p0), .val (.int p1), .val (.int zm), .val (.int (2010 : Int32)), .val (.ref wO)]) rfl (XS.goto X55.here hx rfl (pc0 := 126) (pc' := 134) rfl (hb hby at_126) (by decide) (by decide) (XS.iloadN X55.here hx rfl (hb hby at_134) rfl k)))) ?_
                obtain ⟨_, _, ⟨T56, L56, k56, n56⟩, -, X56, ⟨Lc56, hQ56, l56, y56, z56⟩, st56⟩ := Jvm.LawKit.callS X55 hx (y := mn5) hown (mvT hZ (ow4 hw)) (mvT hZ (ow5 hw)) (mvT hZ (ow2 hw)) (mvT hZ (ow6 hw)) (by decide) (backOf (W := 0) (rm1O l Z a0 hw [] (2010 : Int32) wN wT wM wB wY wO T55.heap n0 (Nat.le_trans Z0 K55.1) (own_sta_keep S_N K55 own_ws0) (own_sta_keep S_T K55 own_ws0) (own_sta_keep S_M K55 own_ws0) (own_sta_keep S_B K55 own_ws0) (own_sta_keep S_Y K55 own_ws0) (own_sta_keep S_O K55 own_ws0) (by decide +kernel)) hZ (ow6 hw) (ow2 hw) (by decide) (by decide)) (g := (mkF m 135 #[.val (.int p0), .val (.int p1), .val (.int zm), .val (.int (2010 : Int32)), .val (.ref wO)] [(.int (2010 : Int32))])) rfl (by rw [hml]; rfl) (argsL := [(.int (2010 : Int32))]) (rest := []) (lenOf pd3 rfl) rfl (by show 2 * 0 + _ ≤ _; exact Nat.le_of_eq rfl) (hb hby at_135) (fun _ _ => ⟨rfl, rfl, (by decide : 2 + 0 ≤ _), (by decide : 48 + 0 ≤ _)⟩)
                dsimp only [Pt.U, Pt.locs, Pt.cells, Pt.slots] at X56 l56 y56 z56 st56 hQ56
                subst l56 y56 z56
                obtain ⟨rfl, N56q, hh56⟩ := hQ56
                have N56 := Fr.app N55 N56q
                refine own_goW (T' := T56) (f' := (mkF m 148 #[.val (.int p0), .val (.int p1), .val (.int zm), .val (.int (2010 : Int32)), .val (.ref wO)] [(.int (1 : Int32))])) (fun _ k => st56 _ (XS.aload X56.here hx rfl (hb hby at_138) rfl rfl (Jvm.RoadKit.acmp (g := (mkF m 140 #[.val (.int p0), .val (.int p1), .val (.int zm), .val (.int (2010 : Int32)), .val (.ref wO)] [(.ref wO), (.ref wO)])) X56 hx rfl rfl rfl (pc0 := 140) (pc' := 143) (same := true) rfl (hb hby at_140) rfl (decide_eq_true rfl) (by decide) (by decide) (XS.iconst X56.here hx rfl (hb hby at_143) (XS.goto X56.here hx rfl (pc0 := 144) (pc' := 148) rfl (hb hby at_144) (by decide) (by decide) k))))) ?_
                refine own_retW X56 hS (by rw [hh56]; exact (Nat.le_refl _)) (v := some (.int (1 : Int32))) (fun h => by rw [Bd.returns] at h; cases h) Bd.notSynchronized (fun fs hr => retN X56 hx (t := .boolean) Bd.returns (by simp) (hb hby at_148) hr) ?_ (by decide) (by decide)
                show Q0 Z B p0 p1 cs fm wN wT wM wB wY wO h0 n0 _ T56.heap T56.vm _
                exact ⟨rfl, N56⟩
              · refine own_goW (T' := s₁) (f' := (mkF m 121 #[.val (.int p0), .val (.int p1), .val (.int zm), .val (.int (2011 : Int32)), .unset] [(.int (2011 : Int32))])) (fun _ k => XS.iloadN X0.here hx rfl (hb hby at_120) rfl k) ?_
                obtain ⟨_, _, ⟨T57, L57, k57, n57⟩, -, X57, hS57, hgr57, ⟨Lc57, hQ57, l57, y57, z57⟩, st57⟩ := callSS X0 hx (y := mn8) hown (mvT hZ (ow57 hw)) (mvT hZ (ow58 hw)) (mvT hZ (ow10 hw)) (mvT hZ (ow59 hw)) (by decide) (own_backS (W := 0) (rm9T l Z a0 hw [] (s.setVm s.vm) (2011 : Int32) cs fm wN wT wM wB wY wO h0 n0 Z0 S_cs hcs S_fm hfm S_N S_T S_M S_B S_Y S_O I1 (fun _ _ q => by rw [hZh]; exact q) hcw hh21 (by decide) (by decide) (by decide +kernel)) hZ (ow59 hw) (ow10 hw) (by decide) (by decide)) (g := (mkF m 121 #[.val (.int p0), .val (.int p1), .val (.int zm), .val (.int (2011 : Int32)), .unset] [(.int (2011 : Int32))])) rfl (by rw [hml]; rfl) (argsL := [(.int (2011 : Int32))]) (rest := []) (lenOf pd3 rfl) rfl (by show 2 * 0 + _ ≤ _; exact Nat.le_of_eq rfl) (hb hby at_121) (fun _ _ => ⟨rfl, e0, (by decide : 0 + 2 ≤ _), (by decide : 0 + 48 ≤ _)⟩)
                dsimp only [Pt.U, Pt.locs, Pt.cells, Pt.slots] at X57 l57 y57 z57 st57 hQ57 hS57 hgr57
                subst l57 y57 z57
                have hM57 := hS57
                obtain ⟨X57, hS, hZ, hown⟩ := rebS hS (by rw [e0]; exact (Nat.le_refl _) : _ ≤ s₁.heap.size) X57 hM57 hgr57 hZ hown
                obtain ⟨rfl, N57q, K57⟩ := hQ57
                have N57 := Fr.app N0 N57q
                have KK57 : Keep h0 T57.heap [] := Keep.trans (Keep.refl h0 []) K57 all0
                refine own_goW (T' := T57) (f' := (mkF m 135 #[.val (.int p0), .val (.int p1), .val (.int zm), .val (.int (2011 : Int32)), .val (.ref wT)] [(.int (2011 : Int32))])) (fun _ k => st57.trans (XS.astore X57.here hx rfl (hb hby at_124) rfl rfl (l' := #[.val (.int p0), .val (.int p1), .val (.int zm), .val (.int (2011 : Int32)), .val (.ref wT)]) rfl (XS.goto X57.here hx rfl (pc0 := 126) (pc' := 134) rfl (hb hby at_126) (by decide) (by decide) (XS.iloadN X57.here hx rfl (hb hby at_134) rfl k)))) ?_
                obtain ⟨_, _, ⟨T58, L58, k58, n58⟩, -, X58, ⟨Lc58, hQ58, l58, y58, z58⟩, st58⟩ := Jvm.LawKit.callS X57 hx (y := mn5) hown (mvT hZ (ow4 hw)) (mvT hZ (ow5 hw)) (mvT hZ (ow2 hw)) (mvT hZ (ow6 hw)) (by decide) (backOf (W := 0) (rm1T l Z a0 hw [] (2011 : Int32) wN wT wM wB wY wO T57.heap n0 (Nat.le_trans Z0 K57.1) (own_sta_keep S_N K57 own_ws0) (own_sta_keep S_T K57 own_ws0) (own_sta_keep S_M K57 own_ws0) (own_sta_keep S_B K57 own_ws0) (own_sta_keep S_Y K57 own_ws0) (own_sta_keep S_O K57 own_ws0) (by decide +kernel)) hZ (ow6 hw) (ow2 hw) (by decide) (by decide)) (g := (mkF m 135 #[.val (.int p0), .val (.int p1), .val (.int zm), .val (.int (2011 : Int32)), .val (.ref wT)] [(.int (2011 : Int32))])) rfl (by rw [hml]; rfl) (argsL := [(.int (2011 : Int32))]) (rest := []) (lenOf pd3 rfl) rfl (by show 2 * 0 + _ ≤ _; exact Nat.le_of_eq rfl) (hb hby at_135) (fun _ _ => ⟨rfl, rfl, (by decide : 2 + 0 ≤ _), (by decide : 48 + 0 ≤ _)⟩)
                dsimp only [Pt.U, Pt.locs, Pt.cells, Pt.slots] at X58 l58 y58 z58 st58 hQ58
                subst l58 y58 z58
                obtain ⟨rfl, N58q, hh58⟩ := hQ58
                have N58 := Fr.app N57 N58q
                refine own_goW (T' := T58) (f' := (mkF m 148 #[.val (.int p0), .val (.int p1), .val (.int zm), .val (.int (2011 : Int32)), .val (.ref wT)] [(.int (1 : Int32))])) (fun _ k => st58 _ (XS.aload X58.here hx rfl (hb hby at_138) rfl rfl (Jvm.RoadKit.acmp (g := (mkF m 140 #[.val (.int p0), .val (.int p1), .val (.int zm), .val (.int (2011 : Int32)), .val (.ref wT)] [(.ref wT), (.ref wT)])) X58 hx rfl rfl rfl (pc0 := 140) (pc' := 143) (same := true) rfl (hb hby at_140) rfl (decide_eq_true rfl) (by decide) (by decide) (XS.iconst X58.here hx rfl (hb hby at_143) (XS.goto X58.here hx rfl (pc0 := 144) (pc' := 148) rfl (hb hby at_144) (by decide) (by decide) k))))) ?_
                refine own_retW X58 hS (by rw [hh58]; exact (Nat.le_refl _)) (v := some (.int (1 : Int32))) (fun h => by rw [Bd.returns] at h; cases h) Bd.notSynchronized (fun fs hr => retN X58 hx (t := .boolean) Bd.returns (by simp) (hb hby at_148) hr) ?_ (by decide) (by decide)
                show Q0 Z B p0 p1 cs fm wN wT wM wB wY wO h0 n0 _ T58.heap T58.vm _
                exact ⟨rfl, N58⟩
              · refine own_goW (T' := s₁) (f' := (mkF m 121 #[.val (.int p0), .val (.int p1), .val (.int zm), .val (.int (2012 : Int32)), .unset] [(.int (2012 : Int32))])) (fun _ k => XS.iloadN X0.here hx rfl (hb hby at_120) rfl k) ?_
                obtain ⟨_, _, ⟨T59, L59, k59, n59⟩, -, X59, hS59, hgr59, ⟨Lc59, hQ59, l59, y59, z59⟩, st59⟩ := callSS X0 hx (y := mn8) hown (mvT hZ (ow57 hw)) (mvT hZ (ow58 hw)) (mvT hZ (ow10 hw)) (mvT hZ (ow59 hw)) (by decide) (own_backS (W := 0) (rm9O l Z a0 hw [] (s.setVm s.vm) (2012 : Int32) cs fm wN wT wM wB wY wO h0 n0 Z0 S_cs hcs S_fm hfm S_N S_T S_M S_B S_Y S_O I1 (fun _ _ q => by rw [hZh]; exact q) hcw hh21 (by decide) (by decide) (by decide +kernel)) hZ (ow59 hw) (ow10 hw) (by decide) (by decide)) (g := (mkF m 121 #[.val (.int p0), .val (.int p1), .val (.int zm), .val (.int (2012 : Int32)), .unset] [(.int (2012 : Int32))])) rfl (by rw [hml]; rfl) (argsL := [(.int (2012 : Int32))]) (rest := []) (lenOf pd3 rfl) rfl (by show 2 * 0 + _ ≤ _; exact Nat.le_of_eq rfl) (hb hby at_121) (fun _ _ => ⟨rfl, e0, (by decide : 0 + 2 ≤ _), (by decide : 0 + 48 ≤ _)⟩)
                dsimp only [Pt.U, Pt.locs, Pt.cells, Pt.slots] at X59 l59 y59 z59 st59 hQ59 hS59 hgr59
                subst l59 y59 z59
                have hM59 := hS59
                obtain ⟨X59, hS, hZ, hown⟩ := rebS hS (by rw [e0]; exact (Nat.le_refl _) : _ ≤ s₁.heap.size) X59 hM59 hgr59 hZ hown
                obtain ⟨rfl, N59q, K59⟩ := hQ59
                have N59 := Fr.app N0 N59q
                have KK59 : Keep h0 T59.heap [] := Keep.trans (Keep.refl h0 []) K59 all0
                refine own_goW (T' := T59) (f' := (mkF m 135 #[.val (.int p0), .val (.int p1), .val (.int zm), .val (.int (2012 : Int32)), .val (.ref wO)] [(.int (2012 : Int32))])) (fun _ k => st59.trans (XS.astore X59.here hx rfl (hb hby at_124) rfl rfl (l' := #[.val (.int p0), .val (.int p1), .val (.int zm), .val (.int (2012 : Int32)), .val (.ref wO)]) rfl (XS.goto X59.here hx rfl (pc0 := 126) (pc' := 134) rfl (hb hby at_126) (by decide) (by decide) (XS.iloadN X59.here hx rfl (hb hby at_134) rfl k)))) ?_
                obtain ⟨_, _, ⟨T60, L60, k60, n60⟩, -, X60, ⟨Lc60, hQ60, l60, y60, z60⟩, st60⟩ := Jvm.LawKit.callS X59 hx (y := mn5) hown (mvT hZ (ow4 hw)) (mvT hZ (ow5 hw)) (mvT hZ (ow2 hw)) (mvT hZ (ow6 hw)) (by decide) (backOf (W := 0) (rm1O l Z a0 hw [] (2012 : Int32) wN wT wM wB wY wO T59.heap n0 (Nat.le_trans Z0 K59.1) (own_sta_keep S_N K59 own_ws0) (own_sta_keep S_T K59 own_ws0) (own_sta_keep S_M K59 own_ws0) (own_sta_keep S_B K59 own_ws0) (own_sta_keep S_Y K59 own_ws0) (own_sta_keep S_O K59 own_ws0) (by decide +kernel)) hZ (ow6 hw) (ow2 hw) (by decide) (by decide)) (g := (mkF m 135 #[.val (.int p0), .val (.int p1), .val (.int zm), .val (.int (2012 : Int32)), .val (.ref wO)] [(.int (2012 : Int32))])) rfl (by rw [hml]; rfl) (argsL := [(.int (2012 : Int32))]) (rest := []) (lenOf pd3 rfl) rfl (by show 2 * 0 + _ ≤ _; exact Nat.le_of_eq rfl) (hb hby at_135) (fun _ _ => ⟨rfl, rfl, (by decide : 2 + 0 ≤ _), (by decide : 48 + 0 ≤ _)⟩)
                dsimp only [Pt.U, Pt.locs, Pt.cells, Pt.slots] at X60 l60 y60 z60 st60 hQ60
                subst l60 y60 z60
                obtain ⟨rfl, N60q, hh60⟩ := hQ60
                have N60 := Fr.app N59 N60q
                refine own_goW (T' := T60) (f' := (mkF m 148 #[.val (.int p0), .val (.int p1), .val (.int zm), .val (.int (2012 : Int32)), .val (.ref wO)] [(.int (1 : Int32))])) (fun _ k => st60 _ (XS.aload X60.here hx rfl (hb hby at_138) rfl rfl (Jvm.RoadKit.acmp (g := (mkF m 140 #[.val (.int p0), .val (.int p1), .val (.int zm), .val (.int (2012 : Int32)), .val (.ref wO)] [(.ref wO), (.ref wO)])) X60 hx rfl rfl rfl (pc0 := 140) (pc' := 143) (same := true) rfl (hb hby at_140) rfl (decide_eq_true rfl) (by decide) (by decide) (XS.iconst X60.here hx rfl (hb hby at_143) (XS.goto X60.here hx rfl (pc0 := 144) (pc' := 148) rfl (hb hby at_144) (by decide) (by decide) k))))) ?_
                refine own_retW X60 hS (by rw [hh60]; exact (Nat.le_refl _)) (v := some (.int (1 : Int32))) (fun h => by rw [Bd.returns] at h; cases h) Bd.notSynchronized (fun fs hr => retN X60 hx (t := .boolean) Bd.returns (by simp) (hb hby at_148) hr) ?_ (by decide) (by decide)
                show Q0 Z B p0 p1 cs fm wN wT wM wB wY wO h0 n0 _ T60.heap T60.vm _
                exact ⟨rfl, N60⟩
              · refine own_goW (T' := s₁) (f' := (mkF m 121 #[.val (.int p0), .val (.int p1), .val (.int zm), .val (.int (2013 : Int32)), .unset] [(.int (2013 : Int32))])) (fun _ k => XS.iloadN X0.here hx rfl (hb hby at_120) rfl k) ?_
                obtain ⟨_, _, ⟨T61, L61, k61, n61⟩, -, X61, hS61, hgr61, ⟨Lc61, hQ61, l61, y61, z61⟩, st61⟩ := callSS X0 hx (y := mn8) hown (mvT hZ (ow57 hw)) (mvT hZ (ow58 hw)) (mvT hZ (ow10 hw)) (mvT hZ (ow59 hw)) (by decide) (own_backS (W := 0) (rm9M l Z a0 hw [] (s.setVm s.vm) (2013 : Int32) cs fm wN wT wM wB wY wO h0 n0 Z0 S_cs hcs S_fm hfm S_N S_T S_M S_B S_Y S_O I1 (fun _ _ q => by rw [hZh]; exact q) hcw hh21 (by decide) (by decide) (by decide +kernel)) hZ (ow59 hw) (ow10 hw) (by decide) (by decide)) (g := (mkF m 121 #[.val (.int p0), .val (.int p1), .val (.int zm), .val (.int (2013 : Int32)), .unset] [(.int (2013 : Int32))])) rfl (by rw [hml]; rfl) (argsL := [(.int (2013 : Int32))]) (rest := []) (lenOf pd3 rfl) rfl (by show 2 * 0 + _ ≤ _; exact Nat.le_of_eq rfl) (hb hby at_121) (fun _ _ => ⟨rfl, e0, (by decide : 0 + 2 ≤ _), (by decide : 0 + 48 ≤ _)⟩)
                dsimp only [Pt.U, Pt.locs, Pt.cells, Pt.slots] at X61 l61 y61 z61 st61 hQ61 hS61 hgr61
                subst l61 y61 z61
                have hM61 := hS61
                obtain ⟨X61, hS, hZ, hown⟩ := rebS hS (by rw [e0]; exact (Nat.le_refl _) : _ ≤ s₁.heap.size) X61 hM61 hgr61 hZ hown
                obtain ⟨rfl, N61q, K61⟩ := hQ61
                have N61 := Fr.app N0 N61q
                have KK61 : Keep h0 T61.heap [] := Keep.trans (Keep.refl h0 []) K61 all0
                refine own_goW (T' := T61) (f' := (mkF m 135 #[.val (.int p0), .val (.int p1), .val (.int zm), .val (.int (2013 : Int32)), .val (.ref wM)] [(.int (2013 : Int32))])) (fun _ k => st61.trans (XS.astore X61.here hx rfl (hb hby at_124) rfl rfl (l' := #[.val (.int p0), .val (.int p1), .val (.int zm), .val (.int (2013 : Int32)), .val (.ref wM)]) rfl (XS.goto X61.here hx rfl (pc0 := 126) (pc' := 134) rfl (hb hby at_126) (by decide) (by decide) (XS.iloadN X61.here hx rfl (hb hby at_134) rfl k)))) ?_
                obtain ⟨_, _, ⟨T62, L62, k62, n62⟩, -, X62, ⟨Lc62, hQ62, l62, y62, z62⟩, st62⟩ := Jvm.LawKit.callS X61 hx (y := mn5) hown (mvT hZ (ow4 hw)) (mvT hZ (ow5 hw)) (mvT hZ (ow2 hw)) (mvT hZ (ow6 hw)) (by decide) (backOf (W := 0) (rm1M l Z a0 hw [] (2013 : Int32) wN wT wM wB wY wO T61.heap n0 (Nat.le_trans Z0 K61.1) (own_sta_keep S_N K61 own_ws0) (own_sta_keep S_T K61 own_ws0) (own_sta_keep S_M K61 own_ws0) (own_sta_keep S_B K61 own_ws0) (own_sta_keep S_Y K61 own_ws0) (own_sta_keep S_O K61 own_ws0) (by decide +kernel)) hZ (ow6 hw) (ow2 hw) (by decide) (by decide)) (g := (mkF m 135 #[.val (.int p0), .val (.int p1), .val (.int zm), .val (.int (2013 : Int32)), .val (.ref wM)] [(.int (2013 : Int32))])) rfl (by rw [hml]; rfl) (argsL := [(.int (2013 : Int32))]) (rest := []) (lenOf pd3 rfl) rfl (by show 2 * 0 + _ ≤ _; exact Nat.le_of_eq rfl) (hb hby at_135) (fun _ _ => ⟨rfl, rfl, (by decide : 2 + 0 ≤ _), (by decide : 48 + 0 ≤ _)⟩)
                dsimp only [Pt.U, Pt.locs, Pt.cells, Pt.slots] at X62 l62 y62 z62 st62 hQ62
                subst l62 y62 z62
                obtain ⟨rfl, N62q, hh62⟩ := hQ62
                have N62 := Fr.app N61 N62q
                refine own_goW (T' := T62) (f' := (mkF m 148 #[.val (.int p0), .val (.int p1), .val (.int zm), .val (.int (2013 : Int32)), .val (.ref wM)] [(.int (1 : Int32))])) (fun _ k => st62 _ (XS.aload X62.here hx rfl (hb hby at_138) rfl rfl (Jvm.RoadKit.acmp (g := (mkF m 140 #[.val (.int p0), .val (.int p1), .val (.int zm), .val (.int (2013 : Int32)), .val (.ref wM)] [(.ref wM), (.ref wM)])) X62 hx rfl rfl rfl (pc0 := 140) (pc' := 143) (same := true) rfl (hb hby at_140) rfl (decide_eq_true rfl) (by decide) (by decide) (XS.iconst X62.here hx rfl (hb hby at_143) (XS.goto X62.here hx rfl (pc0 := 144) (pc' := 148) rfl (hb hby at_144) (by decide) (by decide) k))))) ?_
                refine own_retW X62 hS (by rw [hh62]; exact (Nat.le_refl _)) (v := some (.int (1 : Int32))) (fun h => by rw [Bd.returns] at h; cases h) Bd.notSynchronized (fun fs hr => retN X62 hx (t := .boolean) Bd.returns (by simp) (hb hby at_148) hr) ?_ (by decide) (by decide)
                show Q0 Z B p0 p1 cs fm wN wT wM wB wY wO h0 n0 _ T62.heap T62.vm _
                exact ⟨rfl, N62⟩
              · refine own_goW (T' := s₁) (f' := (mkF m 121 #[.val (.int p0), .val (.int p1), .val (.int zm), .val (.int (2014 : Int32)), .unset] [(.int (2014 : Int32))])) (fun _ k => XS.iloadN X0.here hx rfl (hb hby at_120) rfl k) ?_
                obtain ⟨_, _, ⟨T63, L63, k63, n63⟩, -, X63, hS63, hgr63, ⟨Lc63, hQ63, l63, y63, z63⟩, st63⟩ := callSS X0 hx (y := mn8) hown (mvT hZ (ow57 hw)) (mvT hZ (ow58 hw)) (mvT hZ (ow10 hw)) (mvT hZ (ow59 hw)) (by decide) (own_backS (W := 0) (rm9M l Z a0 hw [] (s.setVm s.vm) (2014 : Int32) cs fm wN wT wM wB wY wO h0 n0 Z0 S_cs hcs S_fm hfm S_N S_T S_M S_B S_Y S_O I1 (fun _ _ q => by rw [hZh]; exact q) hcw hh21 (by decide) (by decide) (by decide +kernel)) hZ (ow59 hw) (ow10 hw) (by decide) (by decide)) (g := (mkF m 121 #[.val (.int p0), .val (.int p1), .val (.int zm), .val (.int (2014 : Int32)), .unset] [(.int (2014 : Int32))])) rfl (by rw [hml]; rfl) (argsL := [(.int (2014 : Int32))]) (rest := []) (lenOf pd3 rfl) rfl (by show 2 * 0 + _ ≤ _; exact Nat.le_of_eq rfl) (hb hby at_121) (fun _ _ => ⟨rfl, e0, (by decide : 0 + 2 ≤ _), (by decide : 0 + 48 ≤ _)⟩)
                dsimp only [Pt.U, Pt.locs, Pt.cells, Pt.slots] at X63 l63 y63 z63 st63 hQ63 hS63 hgr63
                subst l63 y63 z63
                have hM63 := hS63
                obtain ⟨X63, hS, hZ, hown⟩ := rebS hS (by rw [e0]; exact (Nat.le_refl _) : _ ≤ s₁.heap.size) X63 hM63 hgr63 hZ hown
                obtain ⟨rfl, N63q, K63⟩ := hQ63
                have N63 := Fr.app N0 N63q
                have KK63 : Keep h0 T63.heap [] := Keep.trans (Keep.refl h0 []) K63 all0
                refine own_goW (T' := T63) (f' := (mkF m 135 #[.val (.int p0), .val (.int p1), .val (.int zm), .val (.int (2014 : Int32)), .val (.ref wM)] [(.int (2014 : Int32))])) (fun _ k => st63.trans (XS.astore X63.here hx rfl (hb hby at_124) rfl rfl (l' := #[.val (.int p0), .val (.int p1), .val (.int zm), .val (.int (2014 : Int32)), .val (.ref wM)]) rfl (XS.goto X63.here hx rfl (pc0 := 126) (pc' := 134) rfl (hb hby at_126) (by decide) (by decide) (XS.iloadN X63.here hx rfl (hb hby at_134) rfl k)))) ?_
                obtain ⟨_, _, ⟨T64, L64, k64, n64⟩, -, X64, ⟨Lc64, hQ64, l64, y64, z64⟩, st64⟩ := Jvm.LawKit.callS X63 hx (y := mn5) hown (mvT hZ (ow4 hw)) (mvT hZ (ow5 hw)) (mvT hZ (ow2 hw)) (mvT hZ (ow6 hw)) (by decide) (backOf (W := 0) (rm1M l Z a0 hw [] (2014 : Int32) wN wT wM wB wY wO T63.heap n0 (Nat.le_trans Z0 K63.1) (own_sta_keep S_N K63 own_ws0) (own_sta_keep S_T K63 own_ws0) (own_sta_keep S_M K63 own_ws0) (own_sta_keep S_B K63 own_ws0) (own_sta_keep S_Y K63 own_ws0) (own_sta_keep S_O K63 own_ws0) (by decide +kernel)) hZ (ow6 hw) (ow2 hw) (by decide) (by decide)) (g := (mkF m 135 #[.val (.int p0), .val (.int p1), .val (.int zm), .val (.int (2014 : Int32)), .val (.ref wM)] [(.int (2014 : Int32))])) rfl (by rw [hml]; rfl) (argsL := [(.int (2014 : Int32))]) (rest := []) (lenOf pd3 rfl) rfl (by show 2 * 0 + _ ≤ _; exact Nat.le_of_eq rfl) (hb hby at_135) (fun _ _ => ⟨rfl, rfl, (by decide : 2 + 0 ≤ _), (by decide : 48 + 0 ≤ _)⟩)
                dsimp only [Pt.U, Pt.locs, Pt.cells, Pt.slots] at X64 l64 y64 z64 st64 hQ64
                subst l64 y64 z64
                obtain ⟨rfl, N64q, hh64⟩ := hQ64
                have N64 := Fr.app N63 N64q
                refine own_goW (T' := T64) (f' := (mkF m 148 #[.val (.int p0), .val (.int p1), .val (.int zm), .val (.int (2014 : Int32)), .val (.ref wM)] [(.int (1 : Int32))])) (fun _ k => st64 _ (XS.aload X64.here hx rfl (hb hby at_138) rfl rfl (Jvm.RoadKit.acmp (g := (mkF m 140 #[.val (.int p0), .val (.int p1), .val (.int zm), .val (.int (2014 : Int32)), .val (.ref wM)] [(.ref wM), (.ref wM)])) X64 hx rfl rfl rfl (pc0 := 140) (pc' := 143) (same := true) rfl (hb hby at_140) rfl (decide_eq_true rfl) (by decide) (by decide) (XS.iconst X64.here hx rfl (hb hby at_143) (XS.goto X64.here hx rfl (pc0 := 144) (pc' := 148) rfl (hb hby at_144) (by decide) (by decide) k))))) ?_
                refine own_retW X64 hS (by rw [hh64]; exact (Nat.le_refl _)) (v := some (.int (1 : Int32))) (fun h => by rw [Bd.returns] at h; cases h) Bd.notSynchronized (fun fs hr => retN X64 hx (t := .boolean) Bd.returns (by simp) (hb hby at_148) hr) ?_ (by decide) (by decide)
                show Q0 Z B p0 p1 cs fm wN wT wM wB wY wO h0 n0 _ T64.heap T64.vm _
                exact ⟨rfl, N64⟩
        · refine own_goW (T' := s₁) (f' := (mkF m 98 #[.val (.int p0), .val (.int p1), .val (.int zm), .val (.int zv), .unset] [])) (fun _ k => XS.icmpNo X0.here hx rfl (hb hby at_95) rfl (flt hc34).2.2.1 k) ?_
          rcases own_r2 hc3 hc34 with rfl | rfl | rfl
          · obtain ⟨T65, X65, e65, st65⟩ := getS2 X0 hx hZ hown (host := "") (Or.inl (ow51 hw)) Via.refl e0 S_M (g := (mkF m 98 #[.val (.int p0), .val (.int p1), .val (.int zm), .val (.int (91 : Int32)), .unset] [])) rfl (hb hby at_98)
            refine own_goW (T' := T65) (f' := (mkF m 135 #[.val (.int p0), .val (.int p1), .val (.int zm), .val (.int (91 : Int32)), .val (.ref wM)] [(.int (91 : Int32))])) (fun _ k => st65 _ (XS.astore X65.here hx rfl (hb hby at_101) rfl rfl (l' := #[.val (.int p0), .val (.int p1), .val (.int zm), .val (.int (91 : Int32)), .val (.ref wM)]) rfl (XS.goto X65.here hx rfl (pc0 := 103) (pc' := 134) rfl (hb hby at_103) (by decide) (by decide) (XS.iloadN X65.here hx rfl (hb hby at_134) rfl k)))) ?_
            obtain ⟨_, _, ⟨T66, L66, k66, n66⟩, -, X66, ⟨Lc66, hQ66, l66, y66, z66⟩, st66⟩ := Jvm.LawKit.callS X65 hx (y := mn5) hown (mvT hZ (ow4 hw)) (mvT hZ (ow5 hw)) (mvT hZ (ow2 hw)) (mvT hZ (ow6 hw)) (by decide) (backOf (W := 0) (rm1M l Z a0 hw [] (91 : Int32) wN wT wM wB wY wO h0 n0 Z0 S_N S_T S_M S_B S_Y S_O (by decide +kernel)) hZ (ow6 hw) (ow2 hw) (by decide) (by decide)) (g := (mkF m 135 #[.val (.int p0), .val (.int p1), .val (.int zm), .val (.int (91 : Int32)), .val (.ref wM)] [(.int (91 : Int32))])) rfl (by rw [hml]; rfl) (argsL := [(.int (91 : Int32))]) (rest := []) (lenOf pd3 rfl) rfl (by show 2 * 0 + _ ≤ _; exact Nat.le_of_eq rfl) (hb hby at_135) (fun _ _ => ⟨rfl, e65, (by decide : 0 + 0 ≤ _), (by decide : 0 + 0 ≤ _)⟩)
            dsimp only [Pt.U, Pt.locs, Pt.cells, Pt.slots] at X66 l66 y66 z66 st66 hQ66
            subst l66 y66 z66
            obtain ⟨rfl, N66q, hh66⟩ := hQ66
            have N66 := Fr.app N0 N66q
            refine own_goW (T' := T66) (f' := (mkF m 148 #[.val (.int p0), .val (.int p1), .val (.int zm), .val (.int (91 : Int32)), .val (.ref wM)] [(.int (1 : Int32))])) (fun _ k => st66 _ (XS.aload X66.here hx rfl (hb hby at_138) rfl rfl (Jvm.RoadKit.acmp (g := (mkF m 140 #[.val (.int p0), .val (.int p1), .val (.int zm), .val (.int (91 : Int32)), .val (.ref wM)] [(.ref wM), (.ref wM)])) X66 hx rfl rfl rfl (pc0 := 140) (pc' := 143) (same := true) rfl (hb hby at_140) rfl (decide_eq_true rfl) (by decide) (by decide) (XS.iconst X66.here hx rfl (hb hby at_143) (XS.goto X66.here hx rfl (pc0 := 144) (pc' := 148) rfl (hb hby at_144) (by decide) (by decide) k))))) ?_
            refine own_retW X66 hS (by rw [hh66]; exact (Nat.le_refl _)) (v := some (.int (1 : Int32))) (fun h => by rw [Bd.returns] at h; cases h) Bd.notSynchronized (fun fs hr => retN X66 hx (t := .boolean) Bd.returns (by simp) (hb hby at_148) hr) ?_ (by decide) (by decide)
            show Q0 Z B p0 p1 cs fm wN wT wM wB wY wO h0 n0 _ T66.heap T66.vm _
            exact ⟨rfl, N66⟩
          · obtain ⟨T67, X67, e67, st67⟩ := getS2 X0 hx hZ hown (host := "") (Or.inl (ow51 hw)) Via.refl e0 S_M (g := (mkF m 98 #[.val (.int p0), .val (.int p1), .val (.int zm), .val (.int (92 : Int32)), .unset] [])) rfl (hb hby at_98)
            refine own_goW (T' := T67) (f' := (mkF m 135 #[.val (.int p0), .val (.int p1), .val (.int zm), .val (.int (92 : Int32)), .val (.ref wM)] [(.int (92 : Int32))])) (fun _ k => st67 _ (XS.astore X67.here hx rfl (hb hby at_101) rfl rfl (l' := #[.val (.int p0), .val (.int p1), .val (.int zm), .val (.int (92 : Int32)), .val (.ref wM)]) rfl (XS.goto X67.here hx rfl (pc0 := 103) (pc' := 134) rfl (hb hby at_103) (by decide) (by decide) (XS.iloadN X67.here hx rfl (hb hby at_134) rfl k)))) ?_
            obtain ⟨_, _, ⟨T68, L68, k68, n68⟩, -, X68, ⟨Lc68, hQ68, l68, y68, z68⟩, st68⟩ := Jvm.LawKit.callS X67 hx (y := mn5) hown (mvT hZ (ow4 hw)) (mvT hZ (ow5 hw)) (mvT hZ (ow2 hw)) (mvT hZ (ow6 hw)) (by decide) (backOf (W := 0) (rm1M l Z a0 hw [] (92 : Int32) wN wT wM wB wY wO h0 n0 Z0 S_N S_T S_M S_B S_Y S_O (by decide +kernel)) hZ (ow6 hw) (ow2 hw) (by decide) (by decide)) (g := (mkF m 135 #[.val (.int p0), .val (.int p1), .val (.int zm), .val (.int (92 : Int32)), .val (.ref wM)] [(.int (92 : Int32))])) rfl (by rw [hml]; rfl) (argsL := [(.int (92 : Int32))]) (rest := []) (lenOf pd3 rfl) rfl (by show 2 * 0 + _ ≤ _; exact Nat.le_of_eq rfl) (hb hby at_135) (fun _ _ => ⟨rfl, e67, (by decide : 0 + 0 ≤ _), (by decide : 0 + 0 ≤ _)⟩)
            dsimp only [Pt.U, Pt.locs, Pt.cells, Pt.slots] at X68 l68 y68 z68 st68 hQ68
            subst l68 y68 z68
            obtain ⟨rfl, N68q, hh68⟩ := hQ68
            have N68 := Fr.app N0 N68q
            refine own_goW (T' := T68) (f' := (mkF m 148 #[.val (.int p0), .val (.int p1), .val (.int zm), .val (.int (92 : Int32)), .val (.ref wM)] [(.int (1 : Int32))])) (fun _ k => st68 _ (XS.aload X68.here hx rfl (hb hby at_138) rfl rfl (Jvm.RoadKit.acmp (g := (mkF m 140 #[.val (.int p0), .val (.int p1), .val (.int zm), .val (.int (92 : Int32)), .val (.ref wM)] [(.ref wM), (.ref wM)])) X68 hx rfl rfl rfl (pc0 := 140) (pc' := 143) (same := true) rfl (hb hby at_140) rfl (decide_eq_true rfl) (by decide) (by decide) (XS.iconst X68.here hx rfl (hb hby at_143) (XS.goto X68.here hx rfl (pc0 := 144) (pc' := 148) rfl (hb hby at_144) (by decide) (by decide) k))))) ?_
            refine own_retW X68 hS (by rw [hh68]; exact (Nat.le_refl _)) (v := some (.int (1 : Int32))) (fun h => by rw [Bd.returns] at h; cases h) Bd.notSynchronized (fun fs hr => retN X68 hx (t := .boolean) Bd.returns (by simp) (hb hby at_148) hr) ?_ (by decide) (by decide)
            show Q0 Z B p0 p1 cs fm wN wT wM wB wY wO h0 n0 _ T68.heap T68.vm _
            exact ⟨rfl, N68⟩
          · obtain ⟨T69, X69, e69, st69⟩ := getS2 X0 hx hZ hown (host := "") (Or.inl (ow51 hw)) Via.refl e0 S_M (g := (mkF m 98 #[.val (.int p0), .val (.int p1), .val (.int zm), .val (.int (93 : Int32)), .unset] [])) rfl (hb hby at_98)
            refine own_goW (T' := T69) (f' := (mkF m 135 #[.val (.int p0), .val (.int p1), .val (.int zm), .val (.int (93 : Int32)), .val (.ref wM)] [(.int (93 : Int32))])) (fun _ k => st69 _ (XS.astore X69.here hx rfl (hb hby at_101) rfl rfl (l' := #[.val (.int p0), .val (.int p1), .val (.int zm), .val (.int (93 : Int32)), .val (.ref wM)]) rfl (XS.goto X69.here hx rfl (pc0 := 103) (pc' := 134) rfl (hb hby at_103) (by decide) (by decide) (XS.iloadN X69.here hx rfl (hb hby at_134) rfl k)))) ?_
            obtain ⟨_, _, ⟨T70, L70, k70, n70⟩, -, X70, ⟨Lc70, hQ70, l70, y70, z70⟩, st70⟩ := Jvm.LawKit.callS X69 hx (y := mn5) hown (mvT hZ (ow4 hw)) (mvT hZ (ow5 hw)) (mvT hZ (ow2 hw)) (mvT hZ (ow6 hw)) (by decide) (backOf (W := 0) (rm1M l Z a0 hw [] (93 : Int32) wN wT wM wB wY wO h0 n0 Z0 S_N S_T S_M S_B S_Y S_O (by decide +kernel)) hZ (ow6 hw) (ow2 hw) (by decide) (by decide)) (g := (mkF m 135 #[.val (.int p0), .val (.int p1), .val (.int zm), .val (.int (93 : Int32)), .val (.ref wM)] [(.int (93 : Int32))])) rfl (by rw [hml]; rfl) (argsL := [(.int (93 : Int32))]) (rest := []) (lenOf pd3 rfl) rfl (by show 2 * 0 + _ ≤ _; exact Nat.le_of_eq rfl) (hb hby at_135) (fun _ _ => ⟨rfl, e69, (by decide : 0 + 0 ≤ _), (by decide : 0 + 0 ≤ _)⟩)
            dsimp only [Pt.U, Pt.locs, Pt.cells, Pt.slots] at X70 l70 y70 z70 st70 hQ70
            subst l70 y70 z70
            obtain ⟨rfl, N70q, hh70⟩ := hQ70
            have N70 := Fr.app N0 N70q
            refine own_goW (T' := T70) (f' := (mkF m 148 #[.val (.int p0), .val (.int p1), .val (.int zm), .val (.int (93 : Int32)), .val (.ref wM)] [(.int (1 : Int32))])) (fun _ k => st70 _ (XS.aload X70.here hx rfl (hb hby at_138) rfl rfl (Jvm.RoadKit.acmp (g := (mkF m 140 #[.val (.int p0), .val (.int p1), .val (.int zm), .val (.int (93 : Int32)), .val (.ref wM)] [(.ref wM), (.ref wM)])) X70 hx rfl rfl rfl (pc0 := 140) (pc' := 143) (same := true) rfl (hb hby at_140) rfl (decide_eq_true rfl) (by decide) (by decide) (XS.iconst X70.here hx rfl (hb hby at_143) (XS.goto X70.here hx rfl (pc0 := 144) (pc' := 148) rfl (hb hby at_144) (by decide) (by decide) k))))) ?_
            refine own_retW X70 hS (by rw [hh70]; exact (Nat.le_refl _)) (v := some (.int (1 : Int32))) (fun h => by rw [Bd.returns] at h; cases h) Bd.notSynchronized (fun fs hr => retN X70 hx (t := .boolean) Bd.returns (by simp) (hb hby at_148) hr) ?_ (by decide) (by decide)
            show Q0 Z B p0 p1 cs fm wN wT wM wB wY wO h0 n0 _ T70.heap T70.vm _
            exact ⟨rfl, N70⟩
    · refine own_goW (T' := s₁) (f' := (mkF m 74 #[.val (.int p0), .val (.int p1), .val (.int zm), .val (.int zv), .unset] [(.int (16 : Int32)), (.int zv)])) (fun _ k => XS.icmpNo X0.here hx rfl (hb hby at_68) rfl (flt hc2).1 (XS.iloadN X0.here hx rfl (hb hby at_71) rfl (XS.bipush X0.here hx rfl (hb hby at_72) k))) ?_
      by_cases hc71 : (16 : Int32) < zv
      · refine own_goW (T' := s₁) (f' := (mkF m 89 #[.val (.int p0), .val (.int p1), .val (.int zm), .val (.int zv), .unset] [(.int (91 : Int32)), (.int zv)])) (fun _ k => XS.icmpYes X0.here hx rfl (pc0 := 74) (pc' := 86) rfl (hb hby at_74) rfl (tlt hc71).2.2.1 (by decide) (by decide) (XS.iloadN X0.here hx rfl (hb hby at_86) rfl (XS.bipush X0.here hx rfl (hb hby at_87) k))) ?_
        by_cases hc72 : zv < (91 : Int32)
        · refine own_goW (T' := s₁) (f' := (mkF m 110 #[.val (.int p0), .val (.int p1), .val (.int zm), .val (.int zv), .unset] [(.int (2004 : Int32)), (.int zv)])) (fun _ k => XS.icmpYes X0.here hx rfl (pc0 := 89) (pc' := 106) rfl (hb hby at_89) rfl (tlt hc72).1 (by decide) (by decide) (XS.iloadN X0.here hx rfl (hb hby at_106) rfl (XS.sipush X0.here hx rfl (hb hby at_107) k))) ?_
          by_cases hc73 : zv < (2004 : Int32)
          · refine own_goW (T' := s₁) (f' := (mkF m 129 #[.val (.int p0), .val (.int p1), .val (.int zm), .val (.int zv), .unset] [])) (fun _ k => XS.icmpYes X0.here hx rfl (pc0 := 110) (pc' := 129) rfl (hb hby at_110) rfl (tlt hc73).1 (by decide) (by decide) k) ?_
            have hdf74 : lookupswitch.offset [((-16), 241), ((-15), 241), ((-9), 241), ((-7), 253), ((-6), 235), ((-5), 235), ((-4), 259), ((-3), 259), ((-2), 259), ((-1), 241), (1, 241), (2, 235), (3, 235), (4, 235), (5, 235), (6, 235), (7, 235), (8, 235), (12, 241), (16, 253), (91, 247), (92, 247), (93, 247), (2004, 259), (2005, 241), (2011, 241), (2013, 247), (2014, 247)] 265 zv.toInt = 265 := own_dflt (by
              simp only [own_ltI] at hc2 hc71 hc72 hc73
              have e1 : (-16 : Int32).toInt = -16 := rfl
              have e2 : (16 : Int32).toInt = 16 := rfl
              have e3 : (91 : Int32).toInt = 91 := rfl
              have e4 : (93 : Int32).toInt = 93 := rfl
              have e5 : (2004 : Int32).toInt = 2004 := rfl
              have e6 : (2014 : Int32).toInt = 2014 := rfl
              omega)
            obtain ⟨T75, X75, e75, st75⟩ := getS2 X0 hx hZ hown (host := "") (Or.inl (ow1 hw)) Via.refl e0 S_O (g := (mkF m 129 #[.val (.int p0), .val (.int p1), .val (.int zm), .val (.int zv), .unset] [])) rfl (hb hby at_129)
            refine own_goW (T' := T75) (f' := (mkF m 135 #[.val (.int p0), .val (.int p1), .val (.int zm), .val (.int zv), .val (.ref wO)] [(.int zv)])) (fun _ k => st75 _ (XS.astore X75.here hx rfl (hb hby at_132) rfl rfl (l' := #[.val (.int p0), .val (.int p1), .val (.int zm), .val (.int zv), .val (.ref wO)]) rfl (XS.iloadN X75.here hx rfl (hb hby at_134) rfl k))) ?_
            obtain ⟨_, _, ⟨T76, L76, k76, n76⟩, -, X76, ⟨Lc76, hQ76, l76, y76, z76⟩, st76⟩ := Jvm.LawKit.callS X75 hx (y := mn5) hown (mvT hZ (ow4 hw)) (mvT hZ (ow5 hw)) (mvT hZ (ow2 hw)) (mvT hZ (ow6 hw)) (by decide) (backOf (W := 0) (rm1O l Z a0 hw [] zv wN wT wM wB wY wO h0 n0 Z0 S_N S_T S_M S_B S_Y S_O hdf74) hZ (ow6 hw) (ow2 hw) (by decide) (by decide)) (g := (mkF m 135 #[.val (.int p0), .val (.int p1), .val (.int zm), .val (.int zv), .val (.ref wO)] [(.int zv)])) rfl (by rw [hml]; rfl) (argsL := [(.int zv)]) (rest := []) (lenOf pd3 rfl) rfl (by show 2 * 0 + _ ≤ _; exact Nat.le_of_eq rfl) (hb hby at_135) (fun _ _ => ⟨rfl, e75, (by decide : 0 + 0 ≤ _), (by decide : 0 + 0 ≤ _)⟩)
            dsimp only [Pt.U, Pt.locs, Pt.cells, Pt.slots] at X76 l76 y76 z76 st76 hQ76
            subst l76 y76 z76
            obtain ⟨rfl, N76q, hh76⟩ := hQ76
            have N76 := Fr.app N0 N76q
            refine own_goW (T' := T76) (f' := (mkF m 148 #[.val (.int p0), .val (.int p1), .val (.int zm), .val (.int zv), .val (.ref wO)] [(.int (1 : Int32))])) (fun _ k => st76 _ (XS.aload X76.here hx rfl (hb hby at_138) rfl rfl (Jvm.RoadKit.acmp (g := (mkF m 140 #[.val (.int p0), .val (.int p1), .val (.int zm), .val (.int zv), .val (.ref wO)] [(.ref wO), (.ref wO)])) X76 hx rfl rfl rfl (pc0 := 140) (pc' := 143) (same := true) rfl (hb hby at_140) rfl (decide_eq_true rfl) (by decide) (by decide) (XS.iconst X76.here hx rfl (hb hby at_143) (XS.goto X76.here hx rfl (pc0 := 144) (pc' := 148) rfl (hb hby at_144) (by decide) (by decide) k))))) ?_
            refine own_retW X76 hS (by rw [hh76]; exact (Nat.le_refl _)) (v := some (.int (1 : Int32))) (fun h => by rw [Bd.returns] at h; cases h) Bd.notSynchronized (fun fs hr => retN X76 hx (t := .boolean) Bd.returns (by simp) (hb hby at_148) hr) ?_ (by decide) (by decide)
            show Q0 Z B p0 p1 cs fm wN wT wM wB wY wO h0 n0 _ T76.heap T76.vm _
            exact ⟨rfl, N76⟩
          · refine own_goW (T' := s₁) (f' := (mkF m 117 #[.val (.int p0), .val (.int p1), .val (.int zm), .val (.int zv), .unset] [(.int (2014 : Int32)), (.int zv)])) (fun _ k => XS.icmpNo X0.here hx rfl (hb hby at_110) rfl (flt hc73).1 (XS.iloadN X0.here hx rfl (hb hby at_113) rfl (XS.sipush X0.here hx rfl (hb hby at_114) k))) ?_
            by_cases hc77 : (2014 : Int32) < zv
            · refine own_goW (T' := s₁) (f' := (mkF m 129 #[.val (.int p0), .val (.int p1), .val (.int zm), .val (.int zv), .unset] [])) (fun _ k => XS.icmpYes X0.here hx rfl (pc0 := 117) (pc' := 129) rfl (hb hby at_117) rfl (tlt hc77).2.2.1 (by decide) (by decide) k) ?_
              have hdf78 : lookupswitch.offset [((-16), 241), ((-15), 241), ((-9), 241), ((-7), 253), ((-6), 235), ((-5), 235), ((-4), 259), ((-3), 259), ((-2), 259), ((-1), 241), (1, 241), (2, 235), (3, 235), (4, 235), (5, 235), (6, 235), (7, 235), (8, 235), (12, 241), (16, 253), (91, 247), (92, 247), (93, 247), (2004, 259), (2005, 241), (2011, 241), (2013, 247), (2014, 247)] 265 zv.toInt = 265 := own_dflt (by
                simp only [own_ltI] at hc2 hc71 hc72 hc73 hc77
                have e1 : (-16 : Int32).toInt = -16 := rfl
                have e2 : (16 : Int32).toInt = 16 := rfl
                have e3 : (91 : Int32).toInt = 91 := rfl
                have e4 : (93 : Int32).toInt = 93 := rfl
                have e5 : (2004 : Int32).toInt = 2004 := rfl
                have e6 : (2014 : Int32).toInt = 2014 := rfl
                omega)
              obtain ⟨T79, X79, e79, st79⟩ := getS2 X0 hx hZ hown (host := "") (Or.inl (ow1 hw)) Via.refl e0 S_O (g := (mkF m 129 #[.val (.int p0), .val (.int p1), .val (.int zm), .val (.int zv), .unset] [])) rfl (hb hby at_129)
              refine own_goW (T' := T79) (f' := (mkF m 135 #[.val (.int p0), .val (.int p1), .val (.int zm), .val (.int zv), .val (.ref wO)] [(.int zv)])) (fun _ k => st79 _ (XS.astore X79.here hx rfl (hb hby at_132) rfl rfl (l' := #[.val (.int p0), .val (.int p1), .val (.int zm), .val (.int zv), .val (.ref wO)]) rfl (XS.iloadN X79.here hx rfl (hb hby at_134) rfl k))) ?_
              obtain ⟨_, _, ⟨T80, L80, k80, n80⟩, -, X80, ⟨Lc80, hQ80, l80, y80, z80⟩, st80⟩ := Jvm.LawKit.callS X79 hx (y := mn5) hown (mvT hZ (ow4 hw)) (mvT hZ (ow5 hw)) (mvT hZ (ow2 hw)) (mvT hZ (ow6 hw)) (by decide) (backOf (W := 0) (rm1O l Z a0 hw [] zv wN wT wM wB wY wO h0 n0 Z0 S_N S_T S_M S_B S_Y S_O hdf78) hZ (ow6 hw) (ow2 hw) (by decide) (by decide)) (g := (mkF m 135 #[.val (.int p0), .val (.int p1), .val (.int zm), .val (.int zv), .val (.ref wO)] [(.int zv)])) rfl (by rw [hml]; rfl) (argsL := [(.int zv)]) (rest := []) (lenOf pd3 rfl) rfl (by show 2 * 0 + _ ≤ _; exact Nat.le_of_eq rfl) (hb hby at_135) (fun _ _ => ⟨rfl, e79, (by decide : 0 + 0 ≤ _), (by decide : 0 + 0 ≤ _)⟩)
              dsimp only [Pt.U, Pt.locs, Pt.cells, Pt.slots] at X80 l80 y80 z80 st80 hQ80
              subst l80 y80 z80
              obtain ⟨rfl, N80q, hh80⟩ := hQ80
              have N80 := Fr.app N0 N80q
              refine own_goW (T' := T80) (f' := (mkF m 148 #[.val (.int p0), .val (.int p1), .val (.int zm), .val (.int zv), .val (.ref wO)] [(.int (1 : Int32))])) (fun _ k => st80 _ (XS.aload X80.here hx rfl (hb hby at_138) rfl rfl (Jvm.RoadKit.acmp (g := (mkF m 140 #[.val (.int p0), .val (.int p1), .val (.int zm), .val (.int zv), .val (.ref wO)] [(.ref wO), (.ref wO)])) X80 hx rfl rfl rfl (pc0 := 140) (pc' := 143) (same := true) rfl (hb hby at_140) rfl (decide_eq_true rfl) (by decide) (by decide) (XS.iconst X80.here hx rfl (hb hby at_143) (XS.goto X80.here hx rfl (pc0 := 144) (pc' := 148) rfl (hb hby at_144) (by decide) (by decide) k))))) ?_
              refine own_retW X80 hS (by rw [hh80]; exact (Nat.le_refl _)) (v := some (.int (1 : Int32))) (fun h => by rw [Bd.returns] at h; cases h) Bd.notSynchronized (fun fs hr => retN X80 hx (t := .boolean) Bd.returns (by simp) (hb hby at_148) hr) ?_ (by decide) (by decide)
              show Q0 Z B p0 p1 cs fm wN wT wM wB wY wO h0 n0 _ T80.heap T80.vm _
              exact ⟨rfl, N80⟩
            · refine own_goW (T' := s₁) (f' := (mkF m 120 #[.val (.int p0), .val (.int p1), .val (.int zm), .val (.int zv), .unset] [])) (fun _ k => XS.icmpNo X0.here hx rfl (hb hby at_117) rfl (flt hc77).2.2.1 k) ?_
              rcases own_r3 hc73 hc77 with rfl | rfl | rfl | rfl | rfl | rfl | rfl | rfl | rfl | rfl | rfl
              · refine own_goW (T' := s₁) (f' := (mkF m 121 #[.val (.int p0), .val (.int p1), .val (.int zm), .val (.int (2004 : Int32)), .unset] [(.int (2004 : Int32))])) (fun _ k => XS.iloadN X0.here hx rfl (hb hby at_120) rfl k) ?_
                obtain ⟨_, _, ⟨T81, L81, k81, n81⟩, -, X81, hS81, hgr81, ⟨Lc81, hQ81, l81, y81, z81⟩, st81⟩ := callSS X0 hx (y := mn8) hown (mvT hZ (ow57 hw)) (mvT hZ (ow58 hw)) (mvT hZ (ow10 hw)) (mvT hZ (ow59 hw)) (by decide) (own_backS (W := 0) (rm9Y l Z a0 hw [] (s.setVm s.vm) (2004 : Int32) cs fm wN wT wM wB wY wO h0 n0 Z0 S_cs hcs S_fm hfm S_N S_T S_M S_B S_Y S_O I1 (fun _ _ q => by rw [hZh]; exact q) hcw hh21 (by decide) (by decide) (by decide +kernel)) hZ (ow59 hw) (ow10 hw) (by decide) (by decide)) (g := (mkF m 121 #[.val (.int p0), .val (.int p1), .val (.int zm), .val (.int (2004 : Int32)), .unset] [(.int (2004 : Int32))])) rfl (by rw [hml]; rfl) (argsL := [(.int (2004 : Int32))]) (rest := []) (lenOf pd3 rfl) rfl (by show 2 * 0 + _ ≤ _; exact Nat.le_of_eq rfl) (hb hby at_121) (fun _ _ => ⟨rfl, e0, (by decide : 0 + 2 ≤ _), (by decide : 0 + 48 ≤ _)⟩)
                dsimp only [Pt.U, Pt.locs, Pt.cells, Pt.slots] at X81 l81 y81 z81 st81 hQ81 hS81 hgr81
                subst l81 y81 z81
                have hM81 := hS81
                obtain ⟨X81, hS, hZ, hown⟩ := rebS hS (by rw [e0]; exact (Nat.le_refl _) : _ ≤ s₁.heap.size) X81 hM81 hgr81 hZ hown
                obtain ⟨rfl, N81q, K81⟩ := hQ81
                have N81 := Fr.app N0 N81q
                have KK81 : Keep h0 T81.heap [] := Keep.trans (Keep.refl h0 []) K81 all0
                refine own_goW (T' := T81) (f' := (mkF m 135 #[.val (.int p0), .val (.int p1), .val (.int zm), .val (.int (2004 : Int32)), .val (.ref wY)] [(.int (2004 : Int32))])) (fun _ k => st81.trans (XS.astore X81.here hx rfl (hb hby at_124) rfl rfl (l' := #[.val (.int p0), .val (.int p1), .val (.int zm), .val (.int (2004 : Int32)), .val (.ref wY)]) rfl (XS.goto X81.here hx rfl (pc0 := 126) (pc' := 134) rfl (hb hby at_126) (by decide) (by decide) (XS.iloadN X81.here hx rfl (hb hby at_134) rfl k)))) ?_
                obtain ⟨_, _, ⟨T82, L82, k82, n82⟩, -, X82, ⟨Lc82, hQ82, l82, y82, z82⟩, st82⟩ := Jvm.LawKit.callS X81 hx (y := mn5) hown (mvT hZ (ow4 hw)) (mvT hZ (ow5 hw)) (mvT hZ (ow2 hw)) (mvT hZ (ow6 hw)) (by decide) (backOf (W := 0) (rm1Y l Z a0 hw [] (2004 : Int32) wN wT wM wB wY wO T81.heap n0 (Nat.le_trans Z0 K81.1) (own_sta_keep S_N K81 own_ws0) (own_sta_keep S_T K81 own_ws0) (own_sta_keep S_M K81 own_ws0) (own_sta_keep S_B K81 own_ws0) (own_sta_keep S_Y K81 own_ws0) (own_sta_keep S_O K81 own_ws0) (by decide +kernel)) hZ (ow6 hw) (ow2 hw) (by decide) (by decide)) (g := (mkF m 135 #[.val (.int p0), .val (.int p1), .val (.int zm), .val (.int (2004 : Int32)), .val (.ref wY)] [(.int (2004 : Int32))])) rfl (by rw [hml]; rfl) (argsL := [(.int (2004 : Int32))]) (rest := []) (lenOf pd3 rfl) rfl (by show 2 * 0 + _ ≤ _; exact Nat.le_of_eq rfl) (hb hby at_135) (fun _ _ => ⟨rfl, rfl, (by decide : 2 + 0 ≤ _), (by decide : 48 + 0 ≤ _)⟩)
                dsimp only [Pt.U, Pt.locs, Pt.cells, Pt.slots] at X82 l82 y82 z82 st82 hQ82
                subst l82 y82 z82
                obtain ⟨rfl, N82q, hh82⟩ := hQ82
                have N82 := Fr.app N81 N82q
                refine own_goW (T' := T82) (f' := (mkF m 148 #[.val (.int p0), .val (.int p1), .val (.int zm), .val (.int (2004 : Int32)), .val (.ref wY)] [(.int (1 : Int32))])) (fun _ k => st82 _ (XS.aload X82.here hx rfl (hb hby at_138) rfl rfl (Jvm.RoadKit.acmp (g := (mkF m 140 #[.val (.int p0), .val (.int p1), .val (.int zm), .val (.int (2004 : Int32)), .val (.ref wY)] [(.ref wY), (.ref wY)])) X82 hx rfl rfl rfl (pc0 := 140) (pc' := 143) (same := true) rfl (hb hby at_140) rfl (decide_eq_true rfl) (by decide) (by decide) (XS.iconst X82.here hx rfl (hb hby at_143) (XS.goto X82.here hx rfl (pc0 := 144) (pc' := 148) rfl (hb hby at_144) (by decide) (by decide) k))))) ?_
                refine own_retW X82 hS (by rw [hh82]; exact (Nat.le_refl _)) (v := some (.int (1 : Int32))) (fun h => by rw [Bd.returns] at h; cases h) Bd.notSynchronized (fun fs hr => retN X82 hx (t := .boolean) Bd.returns (by simp) (hb hby at_148) hr) ?_ (by decide) (by decide)
                show Q0 Z B p0 p1 cs fm wN wT wM wB wY wO h0 n0 _ T82.heap T82.vm _
                exact ⟨rfl, N82⟩
              · refine own_goW (T' := s₁) (f' := (mkF m 121 #[.val (.int p0), .val (.int p1), .val (.int zm), .val (.int (2005 : Int32)), .unset] [(.int (2005 : Int32))])) (fun _ k => XS.iloadN X0.here hx rfl (hb hby at_120) rfl k) ?_
                obtain ⟨_, _, ⟨T83, L83, k83, n83⟩, -, X83, hS83, hgr83, ⟨Lc83, hQ83, l83, y83, z83⟩, st83⟩ := callSS X0 hx (y := mn8) hown (mvT hZ (ow57 hw)) (mvT hZ (ow58 hw)) (mvT hZ (ow10 hw)) (mvT hZ (ow59 hw)) (by decide) (own_backS (W := 0) (rm9T l Z a0 hw [] (s.setVm s.vm) (2005 : Int32) cs fm wN wT wM wB wY wO h0 n0 Z0 S_cs hcs S_fm hfm S_N S_T S_M S_B S_Y S_O I1 (fun _ _ q => by rw [hZh]; exact q) hcw hh21 (by decide) (by decide) (by decide +kernel)) hZ (ow59 hw) (ow10 hw) (by decide) (by decide)) (g := (mkF m 121 #[.val (.int p0), .val (.int p1), .val (.int zm), .val (.int (2005 : Int32)), .unset] [(.int (2005 : Int32))])) rfl (by rw [hml]; rfl) (argsL := [(.int (2005 : Int32))]) (rest := []) (lenOf pd3 rfl) rfl (by show 2 * 0 + _ ≤ _; exact Nat.le_of_eq rfl) (hb hby at_121) (fun _ _ => ⟨rfl, e0, (by decide : 0 + 2 ≤ _), (by decide : 0 + 48 ≤ _)⟩)
                dsimp only [Pt.U, Pt.locs, Pt.cells, Pt.slots] at X83 l83 y83 z83 st83 hQ83 hS83 hgr83
                subst l83 y83 z83
                have hM83 := hS83
                obtain ⟨X83, hS, hZ, hown⟩ := rebS hS (by rw [e0]; exact (Nat.le_refl _) : _ ≤ s₁.heap.size) X83 hM83 hgr83 hZ hown
                obtain ⟨rfl, N83q, K83⟩ := hQ83
                have N83 := Fr.app N0 N83q
                have KK83 : Keep h0 T83.heap [] := Keep.trans (Keep.refl h0 []) K83 all0
                refine own_goW (T' := T83) (f' := (mkF m 135 #[.val (.int p0), .val (.int p1), .val (.int zm), .val (.int (2005 : Int32)), .val (.ref wT)] [(.int (2005 : Int32))])) (fun _ k => st83.trans (XS.astore X83.here hx rfl (hb hby at_124) rfl rfl (l' := #[.val (.int p0), .val (.int p1), .val (.int zm), .val (.int (2005 : Int32)), .val (.ref wT)]) rfl (XS.goto X83.here hx rfl (pc0 := 126) (pc' := 134) rfl (hb hby at_126) (by decide) (by decide) (XS.iloadN X83.here hx rfl (hb hby at_134) rfl k)))) ?_
                obtain ⟨_, _, ⟨T84, L84, k84, n84⟩, -, X84, ⟨Lc84, hQ84, l84, y84, z84⟩, st84⟩ := Jvm.LawKit.callS X83 hx (y := mn5) hown (mvT hZ (ow4 hw)) (mvT hZ (ow5 hw)) (mvT hZ (ow2 hw)) (mvT hZ (ow6 hw)) (by decide) (backOf (W := 0) (rm1T l Z a0 hw [] (2005 : Int32) wN wT wM wB wY wO T83.heap n0 (Nat.le_trans Z0 K83.1) (own_sta_keep S_N K83 own_ws0) (own_sta_keep S_T K83 own_ws0) (own_sta_keep S_M K83 own_ws0) (own_sta_keep S_B K83 own_ws0) (own_sta_keep S_Y K83 own_ws0) (own_sta_keep S_O K83 own_ws0) (by decide +kernel)) hZ (ow6 hw) (ow2 hw) (by decide) (by decide)) (g := (mkF m 135 #[.val (.int p0), .val (.int p1), .val (.int zm), .val (.int (2005 : Int32)), .val (.ref wT)] [(.int (2005 : Int32))])) rfl (by rw [hml]; rfl) (argsL := [(.int (2005 : Int32))]) (rest := []) (lenOf pd3 rfl) rfl (by show 2 * 0 + _ ≤ _; exact Nat.le_of_eq rfl) (hb hby at_135) (fun _ _ => ⟨rfl, rfl, (by decide : 2 + 0 ≤ _), (by decide : 48 + 0 ≤ _)⟩)
                dsimp only [Pt.U, Pt.locs, Pt.cells, Pt.slots] at X84 l84 y84 z84 st84 hQ84
                subst l84 y84 z84
                obtain ⟨rfl, N84q, hh84⟩ := hQ84
                have N84 := Fr.app N83 N84q
                refine own_goW (T' := T84) (f' := (mkF m 148 #[.val (.int p0), .val (.int p1), .val (.int zm), .val (.int (2005 : Int32)), .val (.ref wT)] [(.int (1 : Int32))])) (fun _ k => st84 _ (XS.aload X84.here hx rfl (hb hby at_138) rfl rfl (Jvm.RoadKit.acmp (g := (mkF m 140 #[.val (.int p0), .val (.int p1), .val (.int zm), .val (.int (2005 : Int32)), .val (.ref wT)] [(.ref wT), (.ref wT)])) X84 hx rfl rfl rfl (pc0 := 140) (pc' := 143) (same := true) rfl (hb hby at_140) rfl (decide_eq_true rfl) (by decide) (by decide) (XS.iconst X84.here hx rfl (hb hby at_143) (XS.goto X84.here hx rfl (pc0 := 144) (pc' := 148) rfl (hb hby at_144) (by decide) (by decide) k))))) ?_
                refine own_retW X84 hS (by rw [hh84]; exact (Nat.le_refl _)) (v := some (.int (1 : Int32))) (fun h => by rw [Bd.returns] at h; cases h) Bd.notSynchronized (fun fs hr => retN X84 hx (t := .boolean) Bd.returns (by simp) (hb hby at_148) hr) ?_ (by decide) (by decide)
                show Q0 Z B p0 p1 cs fm wN wT wM wB wY wO h0 n0 _ T84.heap T84.vm _
                exact ⟨rfl, N84⟩
              · refine own_goW (T' := s₁) (f' := (mkF m 121 #[.val (.int p0), .val (.int p1), .val (.int zm), .val (.int (2006 : Int32)), .unset] [(.int (2006 : Int32))])) (fun _ k => XS.iloadN X0.here hx rfl (hb hby at_120) rfl k) ?_
                obtain ⟨_, _, ⟨T85, L85, k85, n85⟩, -, X85, hS85, hgr85, ⟨Lc85, hQ85, l85, y85, z85⟩, st85⟩ := callSS X0 hx (y := mn8) hown (mvT hZ (ow57 hw)) (mvT hZ (ow58 hw)) (mvT hZ (ow10 hw)) (mvT hZ (ow59 hw)) (by decide) (own_backS (W := 0) (rm9O l Z a0 hw [] (s.setVm s.vm) (2006 : Int32) cs fm wN wT wM wB wY wO h0 n0 Z0 S_cs hcs S_fm hfm S_N S_T S_M S_B S_Y S_O I1 (fun _ _ q => by rw [hZh]; exact q) hcw hh21 (by decide) (by decide) (by decide +kernel)) hZ (ow59 hw) (ow10 hw) (by decide) (by decide)) (g := (mkF m 121 #[.val (.int p0), .val (.int p1), .val (.int zm), .val (.int (2006 : Int32)), .unset] [(.int (2006 : Int32))])) rfl (by rw [hml]; rfl) (argsL := [(.int (2006 : Int32))]) (rest := []) (lenOf pd3 rfl) rfl (by show 2 * 0 + _ ≤ _; exact Nat.le_of_eq rfl) (hb hby at_121) (fun _ _ => ⟨rfl, e0, (by decide : 0 + 2 ≤ _), (by decide : 0 + 48 ≤ _)⟩)
                dsimp only [Pt.U, Pt.locs, Pt.cells, Pt.slots] at X85 l85 y85 z85 st85 hQ85 hS85 hgr85
                subst l85 y85 z85
                have hM85 := hS85
                obtain ⟨X85, hS, hZ, hown⟩ := rebS hS (by rw [e0]; exact (Nat.le_refl _) : _ ≤ s₁.heap.size) X85 hM85 hgr85 hZ hown
                obtain ⟨rfl, N85q, K85⟩ := hQ85
                have N85 := Fr.app N0 N85q
                have KK85 : Keep h0 T85.heap [] := Keep.trans (Keep.refl h0 []) K85 all0
                refine own_goW (T' := T85) (f' := (mkF m 135 #[.val (.int p0), .val (.int p1), .val (.int zm), .val (.int (2006 : Int32)), .val (.ref wO)] [(.int (2006 : Int32))])) (fun _ k => st85.trans (XS.astore X85.here hx rfl (hb hby at_124) rfl rfl (l' := #[.val (.int p0), .val (.int p1), .val (.int zm), .val (.int (2006 : Int32)), .val (.ref wO)]) rfl (XS.goto X85.here hx rfl (pc0 := 126) (pc' := 134) rfl (hb hby at_126) (by decide) (by decide) (XS.iloadN X85.here hx rfl (hb hby at_134) rfl k)))) ?_
                obtain ⟨_, _, ⟨T86, L86, k86, n86⟩, -, X86, ⟨Lc86, hQ86, l86, y86, z86⟩, st86⟩ := Jvm.LawKit.callS X85 hx (y := mn5) hown (mvT hZ (ow4 hw)) (mvT hZ (ow5 hw)) (mvT hZ (ow2 hw)) (mvT hZ (ow6 hw)) (by decide) (backOf (W := 0) (rm1O l Z a0 hw [] (2006 : Int32) wN wT wM wB wY wO T85.heap n0 (Nat.le_trans Z0 K85.1) (own_sta_keep S_N K85 own_ws0) (own_sta_keep S_T K85 own_ws0) (own_sta_keep S_M K85 own_ws0) (own_sta_keep S_B K85 own_ws0) (own_sta_keep S_Y K85 own_ws0) (own_sta_keep S_O K85 own_ws0) (by decide +kernel)) hZ (ow6 hw) (ow2 hw) (by decide) (by decide)) (g := (mkF m 135 #[.val (.int p0), .val (.int p1), .val (.int zm), .val (.int (2006 : Int32)), .val (.ref wO)] [(.int (2006 : Int32))])) rfl (by rw [hml]; rfl) (argsL := [(.int (2006 : Int32))]) (rest := []) (lenOf pd3 rfl) rfl (by show 2 * 0 + _ ≤ _; exact Nat.le_of_eq rfl) (hb hby at_135) (fun _ _ => ⟨rfl, rfl, (by decide : 2 + 0 ≤ _), (by decide : 48 + 0 ≤ _)⟩)
                dsimp only [Pt.U, Pt.locs, Pt.cells, Pt.slots] at X86 l86 y86 z86 st86 hQ86
                subst l86 y86 z86
                obtain ⟨rfl, N86q, hh86⟩ := hQ86
                have N86 := Fr.app N85 N86q
                refine own_goW (T' := T86) (f' := (mkF m 148 #[.val (.int p0), .val (.int p1), .val (.int zm), .val (.int (2006 : Int32)), .val (.ref wO)] [(.int (1 : Int32))])) (fun _ k => st86 _ (XS.aload X86.here hx rfl (hb hby at_138) rfl rfl (Jvm.RoadKit.acmp (g := (mkF m 140 #[.val (.int p0), .val (.int p1), .val (.int zm), .val (.int (2006 : Int32)), .val (.ref wO)] [(.ref wO), (.ref wO)])) X86 hx rfl rfl rfl (pc0 := 140) (pc' := 143) (same := true) rfl (hb hby at_140) rfl (decide_eq_true rfl) (by decide) (by decide) (XS.iconst X86.here hx rfl (hb hby at_143) (XS.goto X86.here hx rfl (pc0 := 144) (pc' := 148) rfl (hb hby at_144) (by decide) (by decide) k))))) ?_
                refine own_retW X86 hS (by rw [hh86]; exact (Nat.le_refl _)) (v := some (.int (1 : Int32))) (fun h => by rw [Bd.returns] at h; cases h) Bd.notSynchronized (fun fs hr => retN X86 hx (t := .boolean) Bd.returns (by simp) (hb hby at_148) hr) ?_ (by decide) (by decide)
                show Q0 Z B p0 p1 cs fm wN wT wM wB wY wO h0 n0 _ T86.heap T86.vm _
                exact ⟨rfl, N86⟩
              · refine own_goW (T' := s₁) (f' := (mkF m 121 #[.val (.int p0), .val (.int p1), .val (.int zm), .val (.int (2007 : Int32)), .unset] [(.int (2007 : Int32))])) (fun _ k => XS.iloadN X0.here hx rfl (hb hby at_120) rfl k) ?_
                obtain ⟨_, _, ⟨T87, L87, k87, n87⟩, -, X87, hS87, hgr87, ⟨Lc87, hQ87, l87, y87, z87⟩, st87⟩ := callSS X0 hx (y := mn8) hown (mvT hZ (ow57 hw)) (mvT hZ (ow58 hw)) (mvT hZ (ow10 hw)) (mvT hZ (ow59 hw)) (by decide) (own_backS (W := 0) (rm9O l Z a0 hw [] (s.setVm s.vm) (2007 : Int32) cs fm wN wT wM wB wY wO h0 n0 Z0 S_cs hcs S_fm hfm S_N S_T S_M S_B S_Y S_O I1 (fun _ _ q => by rw [hZh]; exact q) hcw hh21 (by decide) (by decide) (by decide +kernel)) hZ (ow59 hw) (ow10 hw) (by decide) (by decide)) (g := (mkF m 121 #[.val (.int p0), .val (.int p1), .val (.int zm), .val (.int (2007 : Int32)), .unset] [(.int (2007 : Int32))])) rfl (by rw [hml]; rfl) (argsL := [(.int (2007 : Int32))]) (rest := []) (lenOf pd3 rfl) rfl (by show 2 * 0 + _ ≤ _; exact Nat.le_of_eq rfl) (hb hby at_121) (fun _ _ => ⟨rfl, e0, (by decide : 0 + 2 ≤ _), (by decide : 0 + 48 ≤ _)⟩)
                dsimp only [Pt.U, Pt.locs, Pt.cells, Pt.slots] at X87 l87 y87 z87 st87 hQ87 hS87 hgr87
                subst l87 y87 z87
                have hM87 := hS87
                obtain ⟨X87, hS, hZ, hown⟩ := rebS hS (by rw [e0]; exact (Nat.le_refl _) : _ ≤ s₁.heap.size) X87 hM87 hgr87 hZ hown
                obtain ⟨rfl, N87q, K87⟩ := hQ87
                have N87 := Fr.app N0 N87q
                have KK87 : Keep h0 T87.heap [] := Keep.trans (Keep.refl h0 []) K87 all0
                refine own_goW (T' := T87) (f' := (mkF m 135 #[.val (.int p0), .val (.int p1), .val (.int zm), .val (.int (2007 : Int32)), .val (.ref wO)] [(.int (2007 : Int32))])) (fun _ k => st87.trans (XS.astore X87.here hx rfl (hb hby at_124) rfl rfl (l' := #[.val (.int p0), .val (.int p1), .val (.int zm), .val (.int (2007 : Int32)), .val (.ref wO)]) rfl (XS.goto X87.here hx rfl (pc0 := 126) (pc' := 134) rfl (hb hby at_126) (by decide) (by decide) (XS.iloadN X87.here hx rfl (hb hby at_134) rfl k)))) ?_
                obtain ⟨_, _, ⟨T88, L88, k88, n88⟩, -, X88, ⟨Lc88, hQ88, l88, y88, z88⟩, st88⟩ := Jvm.LawKit.callS X87 hx (y := mn5) hown (mvT hZ (ow4 hw)) (mvT hZ (ow5 hw)) (mvT hZ (ow2 hw)) (mvT hZ (ow6 hw)) (by decide) (backOf (W := 0) (rm1O l Z a0 hw [] (2007 : Int32) wN wT wM wB wY wO T87.heap n0 (Nat.le_trans Z0 K87.1) (own_sta_keep S_N K87 own_ws0) (own_sta_keep S_T K87 own_ws0) (own_sta_keep S_M K87 own_ws0) (own_sta_keep S_B K87 own_ws0) (own_sta_keep S_Y K87 own_ws0) (own_sta_keep S_O K87 own_ws0) (by decide +kernel)) hZ (ow6 hw) (ow2 hw) (by decide) (by decide)) (g := (mkF m 135 #[.val (.int p0), .val (.int p1), .val (.int zm), .val (.int (2007 : Int32)), .val (.ref wO)] [(.int (2007 : Int32))])) rfl (by rw [hml]; rfl) (argsL := [(.int (2007 : Int32))]) (rest := []) (lenOf pd3 rfl) rfl (by show 2 * 0 + _ ≤ _; exact Nat.le_of_eq rfl) (hb hby at_135) (fun _ _ => ⟨rfl, rfl, (by decide : 2 + 0 ≤ _), (by decide : 48 + 0 ≤ _)⟩)
                dsimp only [Pt.U, Pt.locs, Pt.cells, Pt.slots] at X88 l88 y88 z88 st88 hQ88
                subst l88 y88 z88
                obtain ⟨rfl, N88q, hh88⟩ := hQ88
                have N88 := Fr.app N87 N88q
                refine own_goW (T' := T88) (f' := (mkF m 148 #[.val (.int p0), .val (.int p1), .val (.int zm), .val (.int (2007 : Int32)), .val (.ref wO)] [(.int (1 : Int32))])) (fun _ k => st88 _ (XS.aload X88.here hx rfl (hb hby at_138) rfl rfl (Jvm.RoadKit.acmp (g := (mkF m 140 #[.val (.int p0), .val (.int p1), .val (.int zm), .val (.int (2007 : Int32)), .val (.ref wO)] [(.ref wO), (.ref wO)])) X88 hx rfl rfl rfl (pc0 := 140) (pc' := 143) (same := true) rfl (hb hby at_140) rfl (decide_eq_true rfl) (by decide) (by decide) (XS.iconst X88.here hx rfl (hb hby at_143) (XS.goto X88.here hx rfl (pc0 := 144) (pc' := 148) rfl (hb hby at_144) (by decide) (by decide) k))))) ?_
                refine own_retW X88 hS (by rw [hh88]; exact (Nat.le_refl _)) (v := some (.int (1 : Int32))) (fun h => by rw [Bd.returns] at h; cases h) Bd.notSynchronized (fun fs hr => retN X88 hx (t := .boolean) Bd.returns (by simp) (hb hby at_148) hr) ?_ (by decide) (by decide)
                show Q0 Z B p0 p1 cs fm wN wT wM wB wY wO h0 n0 _ T88.heap T88.vm _
                exact ⟨rfl, N88⟩
              · refine own_goW (T' := s₁) (f' := (mkF m 121 #[.val (.int p0), .val (.int p1), .val (.int zm), .val (.int (2008 : Int32)), .unset] [(.int (2008 : Int32))])) (fun _ k => XS.iloadN X0.here hx rfl (hb hby at_120) rfl k) ?_
                obtain ⟨_, _, ⟨T89, L89, k89, n89⟩, -, X89, hS89, hgr89, ⟨Lc89, hQ89, l89, y89, z89⟩, st89⟩ := callSS X0 hx (y := mn8) hown (mvT hZ (ow57 hw)) (mvT hZ (ow58 hw)) (mvT hZ (ow10 hw)) (mvT hZ (ow59 hw)) (by decide) (own_backS (W := 0) (rm9O l Z a0 hw [] (s.setVm s.vm) (2008 : Int32) cs fm wN wT wM wB wY wO h0 n0 Z0 S_cs hcs S_fm hfm S_N S_T S_M S_B S_Y S_O I1 (fun _ _ q => by rw [hZh]; exact q) hcw hh21 (by decide) (by decide) (by decide +kernel)) hZ (ow59 hw) (ow10 hw) (by decide) (by decide)) (g := (mkF m 121 #[.val (.int p0), .val (.int p1), .val (.int zm), .val (.int (2008 : Int32)), .unset] [(.int (2008 : Int32))])) rfl (by rw [hml]; rfl) (argsL := [(.int (2008 : Int32))]) (rest := []) (lenOf pd3 rfl) rfl (by show 2 * 0 + _ ≤ _; exact Nat.le_of_eq rfl) (hb hby at_121) (fun _ _ => ⟨rfl, e0, (by decide : 0 + 2 ≤ _), (by decide : 0 + 48 ≤ _)⟩)
                dsimp only [Pt.U, Pt.locs, Pt.cells, Pt.slots] at X89 l89 y89 z89 st89 hQ89 hS89 hgr89
                subst l89 y89 z89
                have hM89 := hS89
                obtain ⟨X89, hS, hZ, hown⟩ := rebS hS (by rw [e0]; exact (Nat.le_refl _) : _ ≤ s₁.heap.size) X89 hM89 hgr89 hZ hown
                obtain ⟨rfl, N89q, K89⟩ := hQ89
                have N89 := Fr.app N0 N89q
                have KK89 : Keep h0 T89.heap [] := Keep.trans (Keep.refl h0 []) K89 all0
                refine own_goW (T' := T89) (f' := (mkF m 135 #[.val (.int p0), .val (.int p1), .val (.int zm), .val (.int (2008 : Int32)), .val (.ref wO)] [(.int (2008 : Int32))])) (fun _ k => st89.trans (XS.astore X89.here hx rfl (hb hby at_124) rfl rfl (l' := #[.val (.int p0), .val (.int p1), .val (.int zm), .val (.int (2008 : Int32)), .val (.ref wO)]) rfl (XS.goto X89.here hx rfl (pc0 := 126) (pc' := 134) rfl (hb hby at_126) (by decide) (by decide) (XS.iloadN X89.here hx rfl (hb hby at_134) rfl k)))) ?_
                obtain ⟨_, _, ⟨T90, L90, k90, n90⟩, -, X90, ⟨Lc90, hQ90, l90, y90, z90⟩, st90⟩ := Jvm.LawKit.callS X89 hx (y := mn5) hown (mvT hZ (ow4 hw)) (mvT hZ (ow5 hw)) (mvT hZ (ow2 hw)) (mvT hZ (ow6 hw)) (by decide) (backOf (W := 0) (rm1O l Z a0 hw [] (2008 : Int32) wN wT wM wB wY wO T89.heap n0 (Nat.le_trans Z0 K89.1) (own_sta_keep S_N K89 own_ws0) (own_sta_keep S_T K89 own_ws0) (own_sta_keep S_M K89 own_ws0) (own_sta_keep S_B K89 own_ws0) (own_sta_keep S_Y K89 own_ws0) (own_sta_keep S_O K89 own_ws0) (by decide +kernel)) hZ (ow6 hw) (ow2 hw) (by decide) (by decide)) (g := (mkF m 135 #[.val (.int p0), .val (.int p1), .val (.int zm), .val (.int (2008 : Int32)), .val (.ref wO)] [(.int (2008 : Int32))])) rfl (by rw [hml]; rfl) (argsL := [(.int (2008 : Int32))]) (rest := []) (lenOf pd3 rfl) rfl (by show 2 * 0 + _ ≤ _; exact Nat.le_of_eq rfl) (hb hby at_135) (fun _ _ => ⟨rfl, rfl, (by decide : 2 + 0 ≤ _), (by decide : 48 + 0 ≤ _)⟩)
                dsimp only [Pt.U, Pt.locs, Pt.cells, Pt.slots] at X90 l90 y90 z90 st90 hQ90
                subst l90 y90 z90
                obtain ⟨rfl, N90q, hh90⟩ := hQ90
                have N90 := Fr.app N89 N90q
                refine own_goW (T' := T90) (f' := (mkF m 148 #[.val (.int p0), .val (.int p1), .val (.int zm), .val (.int (2008 : Int32)), .val (.ref wO)] [(.int (1 : Int32))])) (fun _ k => st90 _ (XS.aload X90.here hx rfl (hb hby at_138) rfl rfl (Jvm.RoadKit.acmp (g := (mkF m 140 #[.val (.int p0), .val (.int p1), .val (.int zm), .val (.int (2008 : Int32)), .val (.ref wO)] [(.ref wO), (.ref wO)])) X90 hx rfl rfl rfl (pc0 := 140) (pc' := 143) (same := true) rfl (hb hby at_140) rfl (decide_eq_true rfl) (by decide) (by decide) (XS.iconst X90.here hx rfl (hb hby at_143) (XS.goto X90.here hx rfl (pc0 := 144) (pc' := 148) rfl (hb hby at_144) (by decide) (by decide) k))))) ?_
                refine own_retW X90 hS (by rw [hh90]; exact (Nat.le_refl _)) (v := some (.int (1 : Int32))) (fun h => by rw [Bd.returns] at h; cases h) Bd.notSynchronized (fun fs hr => retN X90 hx (t := .boolean) Bd.returns (by simp) (hb hby at_148) hr) ?_ (by decide) (by decide)
                show Q0 Z B p0 p1 cs fm wN wT wM wB wY wO h0 n0 _ T90.heap T90.vm _
                exact ⟨rfl, N90⟩
              · refine own_goW (T' := s₁) (f' := (mkF m 121 #[.val (.int p0), .val (.int p1), .val (.int zm), .val (.int (2009 : Int32)), .unset] [(.int (2009 : Int32))])) (fun _ k => XS.iloadN X0.here hx rfl (hb hby at_120) rfl k) ?_
                obtain ⟨_, _, ⟨T91, L91, k91, n91⟩, -, X91, hS91, hgr91, ⟨Lc91, hQ91, l91, y91, z91⟩, st91⟩ := callSS X0 hx (y := mn8) hown (mvT hZ (ow57 hw)) (mvT hZ (ow58 hw)) (mvT hZ (ow10 hw)) (mvT hZ (ow59 hw)) (by decide) (own_backS (W := 0) (rm9O l Z a0 hw [] (s.setVm s.vm) (2009 : Int32) cs fm wN wT wM wB wY wO h0 n0 Z0 S_cs hcs S_fm hfm S_N S_T S_M S_B S_Y S_O I1 (fun _ _ q => by rw [hZh]; exact q) hcw hh21 (by decide) (by decide) (by decide +kernel)) hZ (ow59 hw) (ow10 hw) (by decide) (by decide)) (g := (mkF m 121 #[.val (.int p0), .val (.int p1), .val (.int zm), .val (.int (2009 : Int32)), .unset] [(.int (2009 : Int32))])) rfl (by rw [hml]; rfl) (argsL := [(.int (2009 : Int32))]) (rest := []) (lenOf pd3 rfl) rfl (by show 2 * 0 + _ ≤ _; exact Nat.le_of_eq rfl) (hb hby at_121) (fun _ _ => ⟨rfl, e0, (by decide : 0 + 2 ≤ _), (by decide : 0 + 48 ≤ _)⟩)
                dsimp only [Pt.U, Pt.locs, Pt.cells, Pt.slots] at X91 l91 y91 z91 st91 hQ91 hS91 hgr91
                subst l91 y91 z91
                have hM91 := hS91
                obtain ⟨X91, hS, hZ, hown⟩ := rebS hS (by rw [e0]; exact (Nat.le_refl _) : _ ≤ s₁.heap.size) X91 hM91 hgr91 hZ hown
                obtain ⟨rfl, N91q, K91⟩ := hQ91
                have N91 := Fr.app N0 N91q
                have KK91 : Keep h0 T91.heap [] := Keep.trans (Keep.refl h0 []) K91 all0
                refine own_goW (T' := T91) (f' := (mkF m 135 #[.val (.int p0), .val (.int p1), .val (.int zm), .val (.int (2009 : Int32)), .val (.ref wO)] [(.int (2009 : Int32))])) (fun _ k => st91.trans (XS.astore X91.here hx rfl (hb hby at_124) rfl rfl (l' := #[.val (.int p0), .val (.int p1), .val (.int zm), .val (.int (2009 : Int32)), .val (.ref wO)]) rfl (XS.goto X91.here hx rfl (pc0 := 126) (pc' := 134) rfl (hb hby at_126) (by decide) (by decide) (XS.iloadN X91.here hx rfl (hb hby at_134) rfl k)))) ?_
                obtain ⟨_, _, ⟨T92, L92, k92, n92⟩, -, X92, ⟨Lc92, hQ92, l92, y92, z92⟩, st92⟩ := Jvm.LawKit.callS X91 hx (y := mn5) hown (mvT hZ (ow4 hw)) (mvT hZ (ow5 hw)) (mvT hZ (ow2 hw)) (mvT hZ (ow6 hw)) (by decide) (backOf (W := 0) (rm1O l Z a0 hw [] (2009 : Int32) wN wT wM wB wY wO T91.heap n0 (Nat.le_trans Z0 K91.1) (own_sta_keep S_N K91 own_ws0) (own_sta_keep S_T K91 own_ws0) (own_sta_keep S_M K91 own_ws0) (own_sta_keep S_B K91 own_ws0) (own_sta_keep S_Y K91 own_ws0) (own_sta_keep S_O K91 own_ws0) (by decide +kernel)) hZ (ow6 hw) (ow2 hw) (by decide) (by decide)) (g := (mkF m 135 #[.val (.int p0), .val (.int p1), .val (.int zm), .val (.int (2009 : Int32)), .val (.ref wO)] [(.int (2009 : Int32))])) rfl (by rw [hml]; rfl) (argsL := [(.int (2009 : Int32))]) (rest := []) (lenOf pd3 rfl) rfl (by show 2 * 0 + _ ≤ _; exact Nat.le_of_eq rfl) (hb hby at_135) (fun _ _ => ⟨rfl, rfl, (by decide : 2 + 0 ≤ _), (by decide : 48 + 0 ≤ _)⟩)
                dsimp only [Pt.U, Pt.locs, Pt.cells, Pt.slots] at X92 l92 y92 z92 st92 hQ92
                subst l92 y92 z92
                obtain ⟨rfl, N92q, hh92⟩ := hQ92
                have N92 := Fr.app N91 N92q
                refine own_goW (T' := T92) (f' := (mkF m 148 #[.val (.int p0), .val (.int p1), .val (.int zm), .val (.int (2009 : Int32)), .val (.ref wO)] [(.int (1 : Int32))])) (fun _ k => st92 _ (XS.aload X92.here hx rfl (hb hby at_138) rfl rfl (Jvm.RoadKit.acmp (g := (mkF m 140 #[.val (.int p0), .val (.int p1), .val (.int zm), .val (.int (2009 : Int32)), .val (.ref wO)] [(.ref wO), (.ref wO)])) X92 hx rfl rfl rfl (pc0 := 140) (pc' := 143) (same := true) rfl (hb hby at_140) rfl (decide_eq_true rfl) (by decide) (by decide) (XS.iconst X92.here hx rfl (hb hby at_143) (XS.goto X92.here hx rfl (pc0 := 144) (pc' := 148) rfl (hb hby at_144) (by decide) (by decide) k))))) ?_
                refine own_retW X92 hS (by rw [hh92]; exact (Nat.le_refl _)) (v := some (.int (1 : Int32))) (fun h => by rw [Bd.returns] at h; cases h) Bd.notSynchronized (fun fs hr => retN X92 hx (t := .boolean) Bd.returns (by simp) (hb hby at_148) hr) ?_ (by decide) (by decide)
                show Q0 Z B p0 p1 cs fm wN wT wM wB wY wO h0 n0 _ T92.heap T92.vm _
                exact ⟨rfl, N92⟩
              · refine own_goW (T' := s₁) (f' := (mkF m 121 #[.val (.int p0), .val (.int p1), .val (.int zm), .val (.int (2010 : Int32)), .unset] [(.int (2010 : Int32))])) (fun _ k => XS.iloadN X0.here hx rfl (hb hby at_120) rfl k) ?_
                obtain ⟨_, _, ⟨T93, L93, k93, n93⟩, -, X93, hS93, hgr93, ⟨Lc93, hQ93, l93, y93, z93⟩, st93⟩ := callSS X0 hx (y := mn8) hown (mvT hZ (ow57 hw)) (mvT hZ (ow58 hw)) (mvT hZ (ow10 hw)) (mvT hZ (ow59 hw)) (by decide) (own_backS (W := 0) (rm9O l Z a0 hw [] (s.setVm s.vm) (2010 : Int32) cs fm wN wT wM wB wY wO h0 n0 Z0 S_cs hcs S_fm hfm S_N S_T S_M S_B S_Y S_O I1 (fun _ _ q => by rw [hZh]; exact q) hcw hh21 (by decide) (by decide) (by decide +kernel)) hZ (ow59 hw) (ow10 hw) (by decide) (by decide)) (g := (mkF m 121 #[.val (.int p0), .val (.int p1), .val (.int zm), .val (.int (2010 : Int32)), .unset] [(.int (2010 : Int32))])) rfl (by rw [hml]; rfl) (argsL := [(.int (2010 : Int32))]) (rest := []) (lenOf pd3 rfl) rfl (by show 2 * 0 + _ ≤ _; exact Nat.le_of_eq rfl) (hb hby at_121) (fun _ _ => ⟨rfl, e0, (by decide : 0 + 2 ≤ _), (by decide : 0 + 48 ≤ _)⟩)
                dsimp only [Pt.U, Pt.locs, Pt.cells, Pt.slots] at X93 l93 y93 z93 st93 hQ93 hS93 hgr93
                subst l93 y93 z93
                have hM93 := hS93
                obtain ⟨X93, hS, hZ, hown⟩ := rebS hS (by rw [e0]; exact (Nat.le_refl _) : _ ≤ s₁.heap.size) X93 hM93 hgr93 hZ hown
                obtain ⟨rfl, N93q, K93⟩ := hQ93
                have N93 := Fr.app N0 N93q
                have KK93 : Keep h0 T93.heap [] := Keep.trans (Keep.refl h0 []) K93 all0
                refine own_goW (T' := T93) (f' := (mkF m 135 #[.val (.int p0), .val (.int p1), .val (.int zm), .val (.int (2010 : Int32)), .val (.ref wO)] [(.int (2010 : Int32))])) (fun _ k => st93.trans (XS.astore X93.here hx rfl (hb hby at_124) rfl rfl (l' := #[.val (.int p0), .val (.int p1), .val (.int zm), .val (.int (2010 : Int32)), .val (.ref wO)]) rfl (XS.goto X93.here hx rfl (pc0 := 126) (pc' := 134) rfl (hb hby at_126) (by decide) (by decide) (XS.iloadN X93.here hx rfl (hb hby at_134) rfl k)))) ?_
                obtain ⟨_, _, ⟨T94, L94, k94, n94⟩, -, X94, ⟨Lc94, hQ94, l94, y94, z94⟩, st94⟩ := Jvm.LawKit.callS X93 hx (y := mn5) hown (mvT hZ (ow4 hw)) (mvT hZ (ow5 hw)) (mvT hZ (ow2 hw)) (mvT hZ (ow6 hw)) (by decide) (backOf (W := 0) (rm1O l Z a0 hw [] (2010 : Int32) wN wT wM wB wY wO T93.heap n0 (Nat.le_trans Z0 K93.1) (own_sta_keep S_N K93 own_ws0) (own_sta_keep S_T K93 own_ws0) (own_sta_keep S_M K93 own_ws0) (own_sta_keep S_B K93 own_ws0) (own_sta_keep S_Y K93 own_ws0) (own_sta_keep S_O K93 own_ws0) (by decide +kernel)) hZ (ow6 hw) (ow2 hw) (by decide) (by decide)) (g := (mkF m 135 #[.val (.int p0), .val (.int p1), .val (.int zm), .val (.int (2010 : Int32)), .val (.ref wO)] [(.int (2010 : Int32))])) rfl (by rw [hml]; rfl) (argsL := [(.int (2010 : Int32))]) (rest := []) (lenOf pd3 rfl) rfl (by show 2 * 0 + _ ≤ _; exact Nat.le_of_eq rfl) (hb hby at_135) (fun _ _ => ⟨rfl, rfl, (by decide : 2 + 0 ≤ _), (by decide : 48 + 0 ≤ _)⟩)
                dsimp only [Pt.U, Pt.locs, Pt.cells, Pt.slots] at X94 l94 y94 z94 st94 hQ94
                subst l94 y94 z94
                obtain ⟨rfl, N94q, hh94⟩ := hQ94
                have N94 := Fr.app N93 N94q
                refine own_goW (T' := T94) (f' := (mkF m 148 #[.val (.int p0), .val (.int p1), .val (.int zm), .val (.int (2010 : Int32)), .val (.ref wO)] [(.int (1 : Int32))])) (fun _ k => st94 _ (XS.aload X94.here hx rfl (hb hby at_138) rfl rfl (Jvm.RoadKit.acmp (g := (mkF m 140 #[.val (.int p0), .val (.int p1), .val (.int zm), .val (.int (2010 : Int32)), .val (.ref wO)] [(.ref wO), (.ref wO)])) X94 hx rfl rfl rfl (pc0 := 140) (pc' := 143) (same := true) rfl (hb hby at_140) rfl (decide_eq_true rfl) (by decide) (by decide) (XS.iconst X94.here hx rfl (hb hby at_143) (XS.goto X94.here hx rfl (pc0 := 144) (pc' := 148) rfl (hb hby at_144) (by decide) (by decide) k))))) ?_
                refine own_retW X94 hS (by rw [hh94]; exact (Nat.le_refl _)) (v := some (.int (1 : Int32))) (fun h => by rw [Bd.returns] at h; cases h) Bd.notSynchronized (fun fs hr => retN X94 hx (t := .boolean) Bd.returns (by simp) (hb hby at_148) hr) ?_ (by decide) (by decide)
                show Q0 Z B p0 p1 cs fm wN wT wM wB wY wO h0 n0 _ T94.heap T94.vm _
                exact ⟨rfl, N94⟩
              · refine own_goW (T' := s₁) (f' := (mkF m 121 #[.val (.int p0), .val (.int p1), .val (.int zm), .val (.int (2011 : Int32)), .unset] [(.int (2011 : Int32))])) (fun _ k => XS.iloadN X0.here hx rfl (hb hby at_120) rfl k) ?_
                obtain ⟨_, _, ⟨T95, L95, k95, n95⟩, -, X95, hS95, hgr95, ⟨Lc95, hQ95, l95, y95, z95⟩, st95⟩ := callSS X0 hx (y := mn8) hown (mvT hZ (ow57 hw)) (mvT hZ (ow58 hw)) (mvT hZ (ow10 hw)) (mvT hZ (ow59 hw)) (by decide) (own_backS (W := 0) (rm9T l Z a0 hw [] (s.setVm s.vm) (2011 : Int32) cs fm wN wT wM wB wY wO h0 n0 Z0 S_cs hcs S_fm hfm S_N S_T S_M S_B S_Y S_O I1 (fun _ _ q => by rw [hZh]; exact q) hcw hh21 (by decide) (by decide) (by decide +kernel)) hZ (ow59 hw) (ow10 hw) (by decide) (by decide)) (g := (mkF m 121 #[.val (.int p0), .val (.int p1), .val (.int zm), .val (.int (2011 : Int32)), .unset] [(.int (2011 : Int32))])) rfl (by rw [hml]; rfl) (argsL := [(.int (2011 : Int32))]) (rest := []) (lenOf pd3 rfl) rfl (by show 2 * 0 + _ ≤ _; exact Nat.le_of_eq rfl) (hb hby at_121) (fun _ _ => ⟨rfl, e0, (by decide : 0 + 2 ≤ _), (by decide : 0 + 48 ≤ _)⟩)
                dsimp only [Pt.U, Pt.locs, Pt.cells, Pt.slots] at X95 l95 y95 z95 st95 hQ95 hS95 hgr95
                subst l95 y95 z95
                have hM95 := hS95
                obtain ⟨X95, hS, hZ, hown⟩ := rebS hS (by rw [e0]; exact (Nat.le_refl _) : _ ≤ s₁.heap.size) X95 hM95 hgr95 hZ hown
                obtain ⟨rfl, N95q, K95⟩ := hQ95
                have N95 := Fr.app N0 N95q
                have KK95 : Keep h0 T95.heap [] := Keep.trans (Keep.refl h0 []) K95 all0
                refine own_goW (T' := T95) (f' := (mkF m 135 #[.val (.int p0), .val (.int p1), .val (.int zm), .val (.int (2011 : Int32)), .val (.ref wT)] [(.int (2011 : Int32))])) (fun _ k => st95.trans (XS.astore X95.here hx rfl (hb hby at_124) rfl rfl (l' := #[.val (.int p0), .val (.int p1), .val (.int zm), .val (.int (2011 : Int32)), .val (.ref wT)]) rfl (XS.goto X95.here hx rfl (pc0 := 126) (pc' := 134) rfl (hb hby at_126) (by decide) (by decide) (XS.iloadN X95.here hx rfl (hb hby at_134) rfl k)))) ?_
                obtain ⟨_, _, ⟨T96, L96, k96, n96⟩, -, X96, ⟨Lc96, hQ96, l96, y96, z96⟩, st96⟩ := Jvm.LawKit.callS X95 hx (y := mn5) hown (mvT hZ (ow4 hw)) (mvT hZ (ow5 hw)) (mvT hZ (ow2 hw)) (mvT hZ (ow6 hw)) (by decide) (backOf (W := 0) (rm1T l Z a0 hw [] (2011 : Int32) wN wT wM wB wY wO T95.heap n0 (Nat.le_trans Z0 K95.1) (own_sta_keep S_N K95 own_ws0) (own_sta_keep S_T K95 own_ws0) (own_sta_keep S_M K95 own_ws0) (own_sta_keep S_B K95 own_ws0) (own_sta_keep S_Y K95 own_ws0) (own_sta_keep S_O K95 own_ws0) (by decide +kernel)) hZ (ow6 hw) (ow2 hw) (by decide) (by decide)) (g := (mkF m 135 #[.val (.int p0), .val (.int p1), .val (.int zm), .val (.int (2011 : Int32)), .val (.ref wT)] [(.int (2011 : Int32))])) rfl (by rw [hml]; rfl) (argsL := [(.int (2011 : Int32))]) (rest := []) (lenOf pd3 rfl) rfl (by show 2 * 0 + _ ≤ _; exact Nat.le_of_eq rfl) (hb hby at_135) (fun _ _ => ⟨rfl, rfl, (by decide : 2 + 0 ≤ _), (by decide : 48 + 0 ≤ _)⟩)
                dsimp only [Pt.U, Pt.locs, Pt.cells, Pt.slots] at X96 l96 y96 z96 st96 hQ96
                subst l96 y96 z96
                obtain ⟨rfl, N96q, hh96⟩ := hQ96
                have N96 := Fr.app N95 N96q
                refine own_goW (T' := T96) (f' := (mkF m 148 #[.val (.int p0), .val (.int p1), .val (.int zm), .val (.int (2011 : Int32)), .val (.ref wT)] [(.int (1 : Int32))])) (fun _ k => st96 _ (XS.aload X96.here hx rfl (hb hby at_138) rfl rfl (Jvm.RoadKit.acmp (g := (mkF m 140 #[.val (.int p0), .val (.int p1), .val (.int zm), .val (.int (2011 : Int32)), .val (.ref wT)] [(.ref wT), (.ref wT)])) X96 hx rfl rfl rfl (pc0 := 140) (pc' := 143) (same := true) rfl (hb hby at_140) rfl (decide_eq_true rfl) (by decide) (by decide) (XS.iconst X96.here hx rfl (hb hby at_143) (XS.goto X96.here hx rfl (pc0 := 144) (pc' := 148) rfl (hb hby at_144) (by decide) (by decide) k))))) ?_
                refine own_retW X96 hS (by rw [hh96]; exact (Nat.le_refl _)) (v := some (.int (1 : Int32))) (fun h => by rw [Bd.returns] at h; cases h) Bd.notSynchronized (fun fs hr => retN X96 hx (t := .boolean) Bd.returns (by simp) (hb hby at_148) hr) ?_ (by decide) (by decide)
                show Q0 Z B p0 p1 cs fm wN wT wM wB wY wO h0 n0 _ T96.heap T96.vm _
                exact ⟨rfl, N96⟩
              · refine own_goW (T' := s₁) (f' := (mkF m 121 #[.val (.int p0), .val (.int p1), .val (.int zm), .val (.int (2012 : Int32)), .unset] [(.int (2012 : Int32))])) (fun _ k => XS.iloadN X0.here hx rfl (hb hby at_120) rfl k) ?_
                obtain ⟨_, _, ⟨T97, L97, k97, n97⟩, -, X97, hS97, hgr97, ⟨Lc97, hQ97, l97, y97, z97⟩, st97⟩ := callSS X0 hx (y := mn8) hown (mvT hZ (ow57 hw)) (mvT hZ (ow58 hw)) (mvT hZ (ow10 hw)) (mvT hZ (ow59 hw)) (by decide) (own_backS (W := 0) (rm9O l Z a0 hw [] (s.setVm s.vm) (2012 : Int32) cs fm wN wT wM wB wY wO h0 n0 Z0 S_cs hcs S_fm hfm S_N S_T S_M S_B S_Y S_O I1 (fun _ _ q => by rw [hZh]; exact q) hcw hh21 (by decide) (by decide) (by decide +kernel)) hZ (ow59 hw) (ow10 hw) (by decide) (by decide)) (g := (mkF m 121 #[.val (.int p0), .val (.int p1), .val (.int zm), .val (.int (2012 : Int32)), .unset] [(.int (2012 : Int32))])) rfl (by rw [hml]; rfl) (argsL := [(.int (2012 : Int32))]) (rest := []) (lenOf pd3 rfl) rfl (by show 2 * 0 + _ ≤ _; exact Nat.le_of_eq rfl) (hb hby at_121) (fun _ _ => ⟨rfl, e0, (by decide : 0 + 2 ≤ _), (by decide : 0 + 48 ≤ _)⟩)
                dsimp only [Pt.U, Pt.locs, Pt.cells, Pt.slots] at X97 l97 y97 z97 st97 hQ97 hS97 hgr97
                subst l97 y97 z97
                have hM97 := hS97
                obtain ⟨X97, hS, hZ, hown⟩ := rebS hS (by rw [e0]; exact (Nat.le_refl _) : _ ≤ s₁.heap.size) X97 hM97 hgr97 hZ hown
                obtain ⟨rfl, N97q, K97⟩ := hQ97
                have N97 := Fr.app N0 N97q
                have KK97 : Keep h0 T97.heap [] := Keep.trans (Keep.refl h0 []) K97 all0
                refine own_goW (T' := T97) (f' := (mkF m 135 #[.val (.int p0), .val (.int p1), .val (.int zm), .val (.int (2012 : Int32)), .val (.ref wO)] [(.int (2012 : Int32))])) (fun _ k => st97.trans (XS.astore X97.here hx rfl (hb hby at_124) rfl rfl (l' := #[.val (.int p0), .val (.int p1), .val (.int zm), .val (.int (2012 : Int32)), .val (.ref wO)]) rfl (XS.goto X97.here hx rfl (pc0 := 126) (pc' := 134) rfl (hb hby at_126) (by decide) (by decide) (XS.iloadN X97.here hx rfl (hb hby at_134) rfl k)))) ?_
                obtain ⟨_, _, ⟨T98, L98, k98, n98⟩, -, X98, ⟨Lc98, hQ98, l98, y98, z98⟩, st98⟩ := Jvm.LawKit.callS X97 hx (y := mn5) hown (mvT hZ (ow4 hw)) (mvT hZ (ow5 hw)) (mvT hZ (ow2 hw)) (mvT hZ (ow6 hw)) (by decide) (backOf (W := 0) (rm1O l Z a0 hw [] (2012 : Int32) wN wT wM wB wY wO T97.heap n0 (Nat.le_trans Z0 K97.1) (own_sta_keep S_N K97 own_ws0) (own_sta_keep S_T K97 own_ws0) (own_sta_keep S_M K97 own_ws0) (own_sta_keep S_B K97 own_ws0) (own_sta_keep S_Y K97 own_ws0) (own_sta_keep S_O K97 own_ws0) (by decide +kernel)) hZ (ow6 hw) (ow2 hw) (by decide) (by decide)) (g := (mkF m 135 #[.val (.int p0), .val (.int p1), .val (.int zm), .val (.int (2012 : Int32)), .val (.ref wO)] [(.int (2012 : Int32))])) rfl (by rw [hml]; rfl) (argsL := [(.int (2012 : Int32))]) (rest := []) (lenOf pd3 rfl) rfl (by show 2 * 0 + _ ≤ _; exact Nat.le_of_eq rfl) (hb hby at_135) (fun _ _ => ⟨rfl, rfl, (by decide : 2 + 0 ≤ _), (by decide : 48 + 0 ≤ _)⟩)
                dsimp only [Pt.U, Pt.locs, Pt.cells, Pt.slots] at X98 l98 y98 z98 st98 hQ98
                subst l98 y98 z98
                obtain ⟨rfl, N98q, hh98⟩ := hQ98
                have N98 := Fr.app N97 N98q
                refine own_goW (T' := T98) (f' := (mkF m 148 #[.val (.int p0), .val (.int p1), .val (.int zm), .val (.int (2012 : Int32)), .val (.ref wO)] [(.int (1 : Int32))])) (fun _ k => st98 _ (XS.aload X98.here hx rfl (hb hby at_138) rfl rfl (Jvm.RoadKit.acmp (g := (mkF m 140 #[.val (.int p0), .val (.int p1), .val (.int zm), .val (.int (2012 : Int32)), .val (.ref wO)] [(.ref wO), (.ref wO)])) X98 hx rfl rfl rfl (pc0 := 140) (pc' := 143) (same := true) rfl (hb hby at_140) rfl (decide_eq_true rfl) (by decide) (by decide) (XS.iconst X98.here hx rfl (hb hby at_143) (XS.goto X98.here hx rfl (pc0 := 144) (pc' := 148) rfl (hb hby at_144) (by decide) (by decide) k))))) ?_
                refine own_retW X98 hS (by rw [hh98]; exact (Nat.le_refl _)) (v := some (.int (1 : Int32))) (fun h => by rw [Bd.returns] at h; cases h) Bd.notSynchronized (fun fs hr => retN X98 hx (t := .boolean) Bd.returns (by simp) (hb hby at_148) hr) ?_ (by decide) (by decide)
                show Q0 Z B p0 p1 cs fm wN wT wM wB wY wO h0 n0 _ T98.heap T98.vm _
                exact ⟨rfl, N98⟩
              · refine own_goW (T' := s₁) (f' := (mkF m 121 #[.val (.int p0), .val (.int p1), .val (.int zm), .val (.int (2013 : Int32)), .unset] [(.int (2013 : Int32))])) (fun _ k => XS.iloadN X0.here hx rfl (hb hby at_120) rfl k) ?_
                obtain ⟨_, _, ⟨T99, L99, k99, n99⟩, -, X99, hS99, hgr99, ⟨Lc99, hQ99, l99, y99, z99⟩, st99⟩ := callSS X0 hx (y := mn8) hown (mvT hZ (ow57 hw)) (mvT hZ (ow58 hw)) (mvT hZ (ow10 hw)) (mvT hZ (ow59 hw)) (by decide) (own_backS (W := 0) (rm9M l Z a0 hw [] (s.setVm s.vm) (2013 : Int32) cs fm wN wT wM wB wY wO h0 n0 Z0 S_cs hcs S_fm hfm S_N S_T S_M S_B S_Y S_O I1 (fun _ _ q => by rw [hZh]; exact q) hcw hh21 (by decide) (by decide) (by decide +kernel)) hZ (ow59 hw) (ow10 hw) (by decide) (by decide)) (g := (mkF m 121 #[.val (.int p0), .val (.int p1), .val (.int zm), .val (.int (2013 : Int32)), .unset] [(.int (2013 : Int32))])) rfl (by rw [hml]; rfl) (argsL := [(.int (2013 : Int32))]) (rest := []) (lenOf pd3 rfl) rfl (by show 2 * 0 + _ ≤ _; exact Nat.le_of_eq rfl) (hb hby at_121) (fun _ _ => ⟨rfl, e0, (by decide : 0 + 2 ≤ _), (by decide : 0 + 48 ≤ _)⟩)
                dsimp only [Pt.U, Pt.locs, Pt.cells, Pt.slots] at X99 l99 y99 z99 st99 hQ99 hS99 hgr99
                subst l99 y99 z99
                have hM99 := hS99
                obtain ⟨X99, hS, hZ, hown⟩ := rebS hS (by rw [e0]; exact (Nat.le_refl _) : _ ≤ s₁.heap.size) X99 hM99 hgr99 hZ hown
                obtain ⟨rfl, N99q, K99⟩ := hQ99
                have N99 := Fr.app N0 N99q
                have KK99 : Keep h0 T99.heap [] := Keep.trans (Keep.refl h0 []) K99 all0
                refine own_goW (T' := T99) (f' := (mkF m 135 #[.val (.int p0), .val (.int p1), .val (.int zm), .val (.int (2013 : Int32)), .val (.ref wM)] [(.int (2013 : Int32))])) (fun _ k => st99.trans (XS.astore X99.here hx rfl (hb hby at_124) rfl rfl (l' := #[.val (.int p0), .val (.int p1), .val (.int zm), .val (.int (2013 : Int32)), .val (.ref wM)]) rfl (XS.goto X99.here hx rfl (pc0 := 126) (pc' := 134) rfl (hb hby at_126) (by decide) (by decide) (XS.iloadN X99.here hx rfl (hb hby at_134) rfl k)))) ?_
                obtain ⟨_, _, ⟨T100, L100, k100, n100⟩, -, X100, ⟨Lc100, hQ100, l100, y100, z100⟩, st100⟩ := Jvm.LawKit.callS X99 hx (y := mn5) hown (mvT hZ (ow4 hw)) (mvT hZ (ow5 hw)) (mvT hZ (ow2 hw)) (mvT hZ (ow6 hw)) (by decide) (backOf (W := 0) (rm1M l Z a0 hw [] (2013 : Int32) wN wT wM wB wY wO T99.heap n0 (Nat.le_trans Z0 K99.1) (own_sta_keep S_N K99 own_ws0) (own_sta_keep S_T K99 own_ws0) (own_sta_keep S_M K99 own_ws0) (own_sta_keep S_B K99 own_ws0) (own_sta_keep S_Y K99 own_ws0) (own_sta_keep S_O K99 own_ws0) (by decide +kernel)) hZ (ow6 hw) (ow2 hw) (by decide) (by decide)) (g := (mkF m 135 #[.val (.int p0), .val (.int p1), .val (.int zm), .val (.int (2013 : Int32)), .val (.ref wM)] [(.int (2013 : Int32))])) rfl (by rw [hml]; rfl) (argsL := [(.int (2013 : Int32))]) (rest := []) (lenOf pd3 rfl) rfl (by show 2 * 0 + _ ≤ _; exact Nat.le_of_eq rfl) (hb hby at_135) (fun _ _ => ⟨rfl, rfl, (by decide : 2 + 0 ≤ _), (by decide : 48 + 0 ≤ _)⟩)
                dsimp only [Pt.U, Pt.locs, Pt.cells, Pt.slots] at X100 l100 y100 z100 st100 hQ100
                subst l100 y100 z100
                obtain ⟨rfl, N100q, hh100⟩ := hQ100
                have N100 := Fr.app N99 N100q
                refine own_goW (T' := T100) (f' := (mkF m 148 #[.val (.int p0), .val (.int p1), .val (.int zm), .val (.int (2013 : Int32)), .val (.ref wM)] [(.int (1 : Int32))])) (fun _ k => st100 _ (XS.aload X100.here hx rfl (hb hby at_138) rfl rfl (Jvm.RoadKit.acmp (g := (mkF m 140 #[.val (.int p0), .val (.int p1), .val (.int zm), .val (.int (2013 : Int32)), .val (.ref wM)] [(.ref wM), (.ref wM)])) X100 hx rfl rfl rfl (pc0 := 140) (pc' := 143) (same := true) rfl (hb hby at_140) rfl (decide_eq_true rfl) (by decide) (by decide) (XS.iconst X100.here hx rfl (hb hby at_143) (XS.goto X100.here hx rfl (pc0 := 144) (pc' := 148) rfl (hb hby at_144) (by decide) (by decide) k))))) ?_
                refine own_retW X100 hS (by rw [hh100]; exact (Nat.le_refl _)) (v := some (.int (1 : Int32))) (fun h => by rw [Bd.returns] at h; cases h) Bd.notSynchronized (fun fs hr => retN X100 hx (t := .boolean) Bd.returns (by simp) (hb hby at_148) hr) ?_ (by decide) (by decide)
                show Q0 Z B p0 p1 cs fm wN wT wM wB wY wO h0 n0 _ T100.heap T100.vm _
                exact ⟨rfl, N100⟩
              · refine own_goW (T' := s₁) (f' := (mkF m 121 #[.val (.int p0), .val (.int p1), .val (.int zm), .val (.int (2014 : Int32)), .unset] [(.int (2014 : Int32))])) (fun _ k => XS.iloadN X0.here hx rfl (hb hby at_120) rfl k) ?_
                obtain ⟨_, _, ⟨T101, L101, k101, n101⟩, -, X101, hS101, hgr101, ⟨Lc101, hQ101, l101, y101, z101⟩, st101⟩ := callSS X0 hx (y := mn8) hown (mvT hZ (ow57 hw)) (mvT hZ (ow58 hw)) (mvT hZ (ow10 hw)) (mvT hZ (ow59 hw)) (by decide) (own_backS (W := 0) (rm9M l Z a0 hw [] (s.setVm s.vm) (2014 : Int32) cs fm wN wT wM wB wY wO h0 n0 Z0 S_cs hcs S_fm hfm S_N S_T S_M S_B S_Y S_O I1 (fun _ _ q => by rw [hZh]; exact q) hcw hh21 (by decide) (by decide) (by decide +kernel)) hZ (ow59 hw) (ow10 hw) (by decide) (by decide)) (g := (mkF m 121 #[.val (.int p0), .val (.int p1), .val (.int zm), .val (.int (2014 : Int32)), .unset] [(.int (2014 : Int32))])) rfl (by rw [hml]; rfl) (argsL := [(.int (2014 : Int32))]) (rest := []) (lenOf pd3 rfl) rfl (by show 2 * 0 + _ ≤ _; exact Nat.le_of_eq rfl) (hb hby at_121) (fun _ _ => ⟨rfl, e0, (by decide : 0 + 2 ≤ _), (by decide : 0 + 48 ≤ _)⟩)
                dsimp only [Pt.U, Pt.locs, Pt.cells, Pt.slots] at X101 l101 y101 z101 st101 hQ101 hS101 hgr101
                subst l101 y101 z101
                have hM101 := hS101
                obtain ⟨X101, hS, hZ, hown⟩ := rebS hS (by rw [e0]; exact (Nat.le_refl _) : _ ≤ s₁.heap.size) X101 hM101 hgr101 hZ hown
                obtain ⟨rfl, N101q, K101⟩ := hQ101
                have N101 := Fr.app N0 N101q
                have KK101 : Keep h0 T101.heap [] := Keep.trans (Keep.refl h0 []) K101 all0
                refine own_goW (T' := T101) (f' := (mkF m 135 #[.val (.int p0), .val (.int p1), .val (.int zm), .val (.int (2014 : Int32)), .val (.ref wM)] [(.int (2014 : Int32))])) (fun _ k => st101.trans (XS.astore X101.here hx rfl (hb hby at_124) rfl rfl (l' := #[.val (.int p0), .val (.int p1), .val (.int zm), .val (.int (2014 : Int32)), .val (.ref wM)]) rfl (XS.goto X101.here hx rfl (pc0 := 126) (pc' := 134) rfl (hb hby at_126) (by decide) (by decide) (XS.iloadN X101.here hx rfl (hb hby at_134) rfl k)))) ?_
                obtain ⟨_, _, ⟨T102, L102, k102, n102⟩, -, X102, ⟨Lc102, hQ102, l102, y102, z102⟩, st102⟩ := Jvm.LawKit.callS X101 hx (y := mn5) hown (mvT hZ (ow4 hw)) (mvT hZ (ow5 hw)) (mvT hZ (ow2 hw)) (mvT hZ (ow6 hw)) (by decide) (backOf (W := 0) (rm1M l Z a0 hw [] (2014 : Int32) wN wT wM wB wY wO T101.heap n0 (Nat.le_trans Z0 K101.1) (own_sta_keep S_N K101 own_ws0) (own_sta_keep S_T K101 own_ws0) (own_sta_keep S_M K101 own_ws0) (own_sta_keep S_B K101 own_ws0) (own_sta_keep S_Y K101 own_ws0) (own_sta_keep S_O K101 own_ws0) (by decide +kernel)) hZ (ow6 hw) (ow2 hw) (by decide) (by decide)) (g := (mkF m 135 #[.val (.int p0), .val (.int p1), .val (.int zm), .val (.int (2014 : Int32)), .val (.ref wM)] [(.int (2014 : Int32))])) rfl (by rw [hml]; rfl) (argsL := [(.int (2014 : Int32))]) (rest := []) (lenOf pd3 rfl) rfl (by show 2 * 0 + _ ≤ _; exact Nat.le_of_eq rfl) (hb hby at_135) (fun _ _ => ⟨rfl, rfl, (by decide : 2 + 0 ≤ _), (by decide : 48 + 0 ≤ _)⟩)
                dsimp only [Pt.U, Pt.locs, Pt.cells, Pt.slots] at X102 l102 y102 z102 st102 hQ102
                subst l102 y102 z102
                obtain ⟨rfl, N102q, hh102⟩ := hQ102
                have N102 := Fr.app N101 N102q
                refine own_goW (T' := T102) (f' := (mkF m 148 #[.val (.int p0), .val (.int p1), .val (.int zm), .val (.int (2014 : Int32)), .val (.ref wM)] [(.int (1 : Int32))])) (fun _ k => st102 _ (XS.aload X102.here hx rfl (hb hby at_138) rfl rfl (Jvm.RoadKit.acmp (g := (mkF m 140 #[.val (.int p0), .val (.int p1), .val (.int zm), .val (.int (2014 : Int32)), .val (.ref wM)] [(.ref wM), (.ref wM)])) X102 hx rfl rfl rfl (pc0 := 140) (pc' := 143) (same := true) rfl (hb hby at_140) rfl (decide_eq_true rfl) (by decide) (by decide) (XS.iconst X102.here hx rfl (hb hby at_143) (XS.goto X102.here hx rfl (pc0 := 144) (pc' := 148) rfl (hb hby at_144) (by decide) (by decide) k))))) ?_
                refine own_retW X102 hS (by rw [hh102]; exact (Nat.le_refl _)) (v := some (.int (1 : Int32))) (fun h => by rw [Bd.returns] at h; cases h) Bd.notSynchronized (fun fs hr => retN X102 hx (t := .boolean) Bd.returns (by simp) (hb hby at_148) hr) ?_ (by decide) (by decide)
                show Q0 Z B p0 p1 cs fm wN wT wM wB wY wO h0 n0 _ T102.heap T102.vm _
                exact ⟨rfl, N102⟩
        · refine own_goW (T' := s₁) (f' := (mkF m 95 #[.val (.int p0), .val (.int p1), .val (.int zm), .val (.int zv), .unset] [(.int (93 : Int32)), (.int zv)])) (fun _ k => XS.icmpNo X0.here hx rfl (hb hby at_89) rfl (flt hc72).1 (XS.iloadN X0.here hx rfl (hb hby at_92) rfl (XS.bipush X0.here hx rfl (hb hby at_93) k))) ?_
          by_cases hc103 : (93 : Int32) < zv
          · refine own_goW (T' := s₁) (f' := (mkF m 110 #[.val (.int p0), .val (.int p1), .val (.int zm), .val (.int zv), .unset] [(.int (2004 : Int32)), (.int zv)])) (fun _ k => XS.icmpYes X0.here hx rfl (pc0 := 95) (pc' := 106) rfl (hb hby at_95) rfl (tlt hc103).2.2.1 (by decide) (by decide) (XS.iloadN X0.here hx rfl (hb hby at_106) rfl (XS.sipush X0.here hx rfl (hb hby at_107) k))) ?_
            by_cases hc104 : zv < (2004 : Int32)
            · refine own_goW (T' := s₁) (f' := (mkF m 129 #[.val (.int p0), .val (.int p1), .val (.int zm), .val (.int zv), .unset] [])) (fun _ k => XS.icmpYes X0.here hx rfl (pc0 := 110) (pc' := 129) rfl (hb hby at_110) rfl (tlt hc104).1 (by decide) (by decide) k) ?_
              have hdf105 : lookupswitch.offset [((-16), 241), ((-15), 241), ((-9), 241), ((-7), 253), ((-6), 235), ((-5), 235), ((-4), 259), ((-3), 259), ((-2), 259), ((-1), 241), (1, 241), (2, 235), (3, 235), (4, 235), (5, 235), (6, 235), (7, 235), (8, 235), (12, 241), (16, 253), (91, 247), (92, 247), (93, 247), (2004, 259), (2005, 241), (2011, 241), (2013, 247), (2014, 247)] 265 zv.toInt = 265 := own_dflt (by
                simp only [own_ltI] at hc2 hc71 hc72 hc103 hc104
                have e1 : (-16 : Int32).toInt = -16 := rfl
                have e2 : (16 : Int32).toInt = 16 := rfl
                have e3 : (91 : Int32).toInt = 91 := rfl
                have e4 : (93 : Int32).toInt = 93 := rfl
                have e5 : (2004 : Int32).toInt = 2004 := rfl
                have e6 : (2014 : Int32).toInt = 2014 := rfl
                omega)
              obtain ⟨T106, X106, e106, st106⟩ := getS2 X0 hx hZ hown (host := "") (Or.inl (ow1 hw)) Via.refl e0 S_O (g := (mkF m 129 #[.val (.int p0), .val (.int p1), .val (.int zm), .val (.int zv), .unset] [])) rfl (hb hby at_129)
              refine own_goW (T' := T106) (f' := (mkF m 135 #[.val (.int p0), .val (.int p1), .val (.int zm), .val (.int zv), .val (.ref wO)] [(.int zv)])) (fun _ k => st106 _ (XS.astore X106.here hx rfl (hb hby at_132) rfl rfl (l' := #[.val (.int p0), .val (.int p1), .val (.int zm), .val (.int zv), .val (.ref wO)]) rfl (XS.iloadN X106.here hx rfl (hb hby at_134) rfl k))) ?_
              obtain ⟨_, _, ⟨T107, L107, k107, n107⟩, -, X107, ⟨Lc107, hQ107, l107, y107, z107⟩, st107⟩ := Jvm.LawKit.callS X106 hx (y := mn5) hown (mvT hZ (ow4 hw)) (mvT hZ (ow5 hw)) (mvT hZ (ow2 hw)) (mvT hZ (ow6 hw)) (by decide) (backOf (W := 0) (rm1O l Z a0 hw [] zv wN wT wM wB wY wO h0 n0 Z0 S_N S_T S_M S_B S_Y S_O hdf105) hZ (ow6 hw) (ow2 hw) (by decide) (by decide)) (g := (mkF m 135 #[.val (.int p0), .val (.int p1), .val (.int zm), .val (.int zv), .val (.ref wO)] [(.int zv)])) rfl (by rw [hml]; rfl) (argsL := [(.int zv)]) (rest := []) (lenOf pd3 rfl) rfl (by show 2 * 0 + _ ≤ _; exact Nat.le_of_eq rfl) (hb hby at_135) (fun _ _ => ⟨rfl, e106, (by decide : 0 + 0 ≤ _), (by decide : 0 + 0 ≤ _)⟩)
              dsimp only [Pt.U, Pt.locs, Pt.cells, Pt.slots] at X107 l107 y107 z107 st107 hQ107
              subst l107 y107 z107
              obtain ⟨rfl, N107q, hh107⟩ := hQ107
              have N107 := Fr.app N0 N107q
              refine own_goW (T' := T107) (f' := (mkF m 148 #[.val (.int p0), .val (.int p1), .val (.int zm), .val (.int zv), .val (.ref wO)] [(.int (1 : Int32))])) (fun _ k => st107 _ (XS.aload X107.here hx rfl (hb hby at_138) rfl rfl (Jvm.RoadKit.acmp (g := (mkF m 140 #[.val (.int p0), .val (.int p1), .val (.int zm), .val (.int zv), .val (.ref wO)] [(.ref wO), (.ref wO)])) X107 hx rfl rfl rfl (pc0 := 140) (pc' := 143) (same := true) rfl (hb hby at_140) rfl (decide_eq_true rfl) (by decide) (by decide) (XS.iconst X107.here hx rfl (hb hby at_143) (XS.goto X107.here hx rfl (pc0 := 144) (pc' := 148) rfl (hb hby at_144) (by decide) (by decide) k))))) ?_
              refine own_retW X107 hS (by rw [hh107]; exact (Nat.le_refl _)) (v := some (.int (1 : Int32))) (fun h => by rw [Bd.returns] at h; cases h) Bd.notSynchronized (fun fs hr => retN X107 hx (t := .boolean) Bd.returns (by simp) (hb hby at_148) hr) ?_ (by decide) (by decide)
              show Q0 Z B p0 p1 cs fm wN wT wM wB wY wO h0 n0 _ T107.heap T107.vm _
              exact ⟨rfl, N107⟩
            · refine own_goW (T' := s₁) (f' := (mkF m 117 #[.val (.int p0), .val (.int p1), .val (.int zm), .val (.int zv), .unset] [(.int (2014 : Int32)), (.int zv)])) (fun _ k => XS.icmpNo X0.here hx rfl (hb hby at_110) rfl (flt hc104).1 (XS.iloadN X0.here hx rfl (hb hby at_113) rfl (XS.sipush X0.here hx rfl (hb hby at_114) k))) ?_
              by_cases hc108 : (2014 : Int32) < zv
              · refine own_goW (T' := s₁) (f' := (mkF m 129 #[.val (.int p0), .val (.int p1), .val (.int zm), .val (.int zv), .unset] [])) (fun _ k => XS.icmpYes X0.here hx rfl (pc0 := 117) (pc' := 129) rfl (hb hby at_117) rfl (tlt hc108).2.2.1 (by decide) (by decide) k) ?_
                have hdf109 : lookupswitch.offset [((-16), 241), ((-15), 241), ((-9), 241), ((-7), 253), ((-6), 235), ((-5), 235), ((-4), 259), ((-3), 259), ((-2), 259), ((-1), 241), (1, 241), (2, 235), (3, 235), (4, 235), (5, 235), (6, 235), (7, 235), (8, 235), (12, 241), (16, 253), (91, 247), (92, 247), (93, 247), (2004, 259), (2005, 241), (2011, 241), (2013, 247), (2014, 247)] 265 zv.toInt = 265 := own_dflt (by
                  simp only [own_ltI] at hc2 hc71 hc72 hc103 hc104 hc108
                  have e1 : (-16 : Int32).toInt = -16 := rfl
                  have e2 : (16 : Int32).toInt = 16 := rfl
                  have e3 : (91 : Int32).toInt = 91 := rfl
                  have e4 : (93 : Int32).toInt = 93 := rfl
                  have e5 : (2004 : Int32).toInt = 2004 := rfl
                  have e6 : (2014 : Int32).toInt = 2014 := rfl
                  omega)
                obtain ⟨T110, X110, e110, st110⟩ := getS2 X0 hx hZ hown (host := "") (Or.inl (ow1 hw)) Via.refl e0 S_O (g := (mkF m 129 #[.val (.int p0), .val (.int p1), .val (.int zm), .val (.int zv), .unset] [])) rfl (hb hby at_129)
                refine own_goW (T' := T110) (f' := (mkF m 135 #[.val (.int p0), .val (.int p1), .val (.int zm), .val (.int zv), .val (.ref wO)] [(.int zv)])) (fun _ k => st110 _ (XS.astore X110.here hx rfl (hb hby at_132) rfl rfl (l' := #[.val (.int p0), .val (.int p1), .val (.int zm), .val (.int zv), .val (.ref wO)]) rfl (XS.iloadN X110.here hx rfl (hb hby at_134) rfl k))) ?_
                obtain ⟨_, _, ⟨T111, L111, k111, n111⟩, -, X111, ⟨Lc111, hQ111, l111, y111, z111⟩, st111⟩ := Jvm.LawKit.callS X110 hx (y := mn5) hown (mvT hZ (ow4 hw)) (mvT hZ (ow5 hw)) (mvT hZ (ow2 hw)) (mvT hZ (ow6 hw)) (by decide) (backOf (W := 0) (rm1O l Z a0 hw [] zv wN wT wM wB wY wO h0 n0 Z0 S_N S_T S_M S_B S_Y S_O hdf109) hZ (ow6 hw) (ow2 hw) (by decide) (by decide)) (g := (mkF m 135 #[.val (.int p0), .val (.int p1), .val (.int zm), .val (.int zv), .val (.ref wO)] [(.int zv)])) rfl (by rw [hml]; rfl) (argsL := [(.int zv)]) (rest := []) (lenOf pd3 rfl) rfl (by show 2 * 0 + _ ≤ _; exact Nat.le_of_eq rfl) (hb hby at_135) (fun _ _ => ⟨rfl, e110, (by decide : 0 + 0 ≤ _), (by decide : 0 + 0 ≤ _)⟩)
                dsimp only [Pt.U, Pt.locs, Pt.cells, Pt.slots] at X111 l111 y111 z111 st111 hQ111
                subst l111 y111 z111
                obtain ⟨rfl, N111q, hh111⟩ := hQ111
                have N111 := Fr.app N0 N111q
                refine own_goW (T' := T111) (f' := (mkF m 148 #[.val (.int p0), .val (.int p1), .val (.int zm), .val (.int zv), .val (.ref wO)] [(.int (1 : Int32))])) (fun _ k => st111 _ (XS.aload X111.here hx rfl (hb hby at_138) rfl rfl (Jvm.RoadKit.acmp (g := (mkF m 140 #[.val (.int p0), .val (.int p1), .val (.int zm), .val (.int zv), .val (.ref wO)] [(.ref wO), (.ref wO)])) X111 hx rfl rfl rfl (pc0 := 140) (pc' := 143) (same := true) rfl (hb hby at_140) rfl (decide_eq_true rfl) (by decide) (by decide) (XS.iconst X111.here hx rfl (hb hby at_143) (XS.goto X111.here hx rfl (pc0 := 144) (pc' := 148) rfl (hb hby at_144) (by decide) (by decide) k))))) ?_
                refine own_retW X111 hS (by rw [hh111]; exact (Nat.le_refl _)) (v := some (.int (1 : Int32))) (fun h => by rw [Bd.returns] at h; cases h) Bd.notSynchronized (fun fs hr => retN X111 hx (t := .boolean) Bd.returns (by simp) (hb hby at_148) hr) ?_ (by decide) (by decide)
                show Q0 Z B p0 p1 cs fm wN wT wM wB wY wO h0 n0 _ T111.heap T111.vm _
                exact ⟨rfl, N111⟩
              · refine own_goW (T' := s₁) (f' := (mkF m 120 #[.val (.int p0), .val (.int p1), .val (.int zm), .val (.int zv), .unset] [])) (fun _ k => XS.icmpNo X0.here hx rfl (hb hby at_117) rfl (flt hc108).2.2.1 k) ?_
                rcases own_r3 hc104 hc108 with rfl | rfl | rfl | rfl | rfl | rfl | rfl | rfl | rfl | rfl | rfl
                · refine own_goW (T' := s₁) (f' := (mkF m 121 #[.val (.int p0), .val (.int p1), .val (.int zm), .val (.int (2004 : Int32)), .unset] [(.int (2004 : Int32))])) (fun _ k => XS.iloadN X0.here hx rfl (hb hby at_120) rfl k) ?_
                  obtain ⟨_, _, ⟨T112, L112, k112, n112⟩, -, X112, hS112, hgr112, ⟨Lc112, hQ112, l112, y112, z112⟩, st112⟩ := callSS X0 hx (y := mn8) hown (mvT hZ (ow57 hw)) (mvT hZ (ow58 hw)) (mvT hZ (ow10 hw)) (mvT hZ (ow59 hw)) (by decide) (own_backS (W := 0) (rm9Y l Z a0 hw [] (s.setVm s.vm) (2004 : Int32) cs fm wN wT wM wB wY wO h0 n0 Z0 S_cs hcs S_fm hfm S_N S_T S_M S_B S_Y S_O I1 (fun _ _ q => by rw [hZh]; exact q) hcw hh21 (by decide) (by decide) (by decide +kernel)) hZ (ow59 hw) (ow10 hw) (by decide) (by decide)) (g := (mkF m 121 #[.val (.int p0), .val (.int p1), .val (.int zm), .val (.int (2004 : Int32)), .unset] [(.int (2004 : Int32))])) rfl (by rw [hml]; rfl) (argsL := [(.int (2004 : Int32))]) (rest := []) (lenOf pd3 rfl) rfl (by show 2 * 0 + _ ≤ _; exact Nat.le_of_eq rfl) (hb hby at_121) (fun _ _ => ⟨rfl, e0, (by decide : 0 + 2 ≤ _), (by decide : 0 + 48 ≤ _)⟩)
                  dsimp only [Pt.U, Pt.locs, Pt.cells, Pt.slots] at X112 l112 y112 z112 st112 hQ112 hS112 hgr112
                  subst l112 y112 z112
                  have hM112 := hS112
                  obtain ⟨X112, hS, hZ, hown⟩ := rebS hS (by rw [e0]; exact (Nat.le_refl _) : _ ≤ s₁.heap.size) X112 hM112 hgr112 hZ hown
                  obtain ⟨rfl, N112q, K112⟩ := hQ112
                  have N112 := Fr.app N0 N112q
                  have KK112 : Keep h0 T112.heap [] := Keep.trans (Keep.refl h0 []) K112 all0
                  refine own_goW (T' := T112) (f' := (mkF m 135 #[.val (.int p0), .val (.int p1), .val (.int zm), .val (.int (2004 : Int32)), .val (.ref wY)] [(.int (2004 : Int32))])) (fun _ k => st112.trans (XS.astore X112.here hx rfl (hb hby at_124) rfl rfl (l' := #[.val (.int p0), .val (.int p1), .val (.int zm), .val (.int (2004 : Int32)), .val (.ref wY)]) rfl (XS.goto X112.here hx rfl (pc0 := 126) (pc' := 134) rfl (hb hby at_126) (by decide) (by decide) (XS.iloadN X112.here hx rfl (hb hby at_134) rfl k)))) ?_
                  obtain ⟨_, _, ⟨T113, L113, k113, n113⟩, -, X113, ⟨Lc113, hQ113, l113, y113, z113⟩, st113⟩ := Jvm.LawKit.callS X112 hx (y := mn5) hown (mvT hZ (ow4 hw)) (mvT hZ (ow5 hw)) (mvT hZ (ow2 hw)) (mvT hZ (ow6 hw)) (by decide) (backOf (W := 0) (rm1Y l Z a0 hw [] (2004 : Int32) wN wT wM wB wY wO T112.heap n0 (Nat.le_trans Z0 K112.1) (own_sta_keep S_N K112 own_ws0) (own_sta_keep S_T K112 own_ws0) (own_sta_keep S_M K112 own_ws0) (own_sta_keep S_B K112 own_ws0) (own_sta_keep S_Y K112 own_ws0) (own_sta_keep S_O K112 own_ws0) (by decide +kernel)) hZ (ow6 hw) (ow2 hw) (by decide) (by decide)) (g := (mkF m 135 #[.val (.int p0), .val (.int p1), .val (.int zm), .val (.int (2004 : Int32)), .val (.ref wY)] [(.int (2004 : Int32))])) rfl (by rw [hml]; rfl) (argsL := [(.int (2004 : Int32))]) (rest := []) (lenOf pd3 rfl) rfl (by show 2 * 0 + _ ≤ _; exact Nat.le_of_eq rfl) (hb hby at_135) (fun _ _ => ⟨rfl, rfl, (by decide : 2 + 0 ≤ _), (by decide : 48 + 0 ≤ _)⟩)
                  dsimp only [Pt.U, Pt.locs, Pt.cells, Pt.slots] at X113 l113 y113 z113 st113 hQ113
                  subst l113 y113 z113
                  obtain ⟨rfl, N113q, hh113⟩ := hQ113
                  have N113 := Fr.app N112 N113q
                  refine own_goW (T' := T113) (f' := (mkF m 148 #[.val (.int p0), .val (.int p1), .val (.int zm), .val (.int (2004 : Int32)), .val (.ref wY)] [(.int (1 : Int32))])) (fun _ k => st113 _ (XS.aload X113.here hx rfl (hb hby at_138) rfl rfl (Jvm.RoadKit.acmp (g := (mkF m 140 #[.val (.int p0), .val (.int p1), .val (.int zm), .val (.int (2004 : Int32)), .val (.ref wY)] [(.ref wY), (.ref wY)])) X113 hx rfl rfl rfl (pc0 := 140) (pc' := 143) (same := true) rfl (hb hby at_140) rfl (decide_eq_true rfl) (by decide) (by decide) (XS.iconst X113.here hx rfl (hb hby at_143) (XS.goto X113.here hx rfl (pc0 := 144) (pc' := 148) rfl (hb hby at_144) (by decide) (by decide) k))))) ?_
                  refine own_retW X113 hS (by rw [hh113]; exact (Nat.le_refl _)) (v := some (.int (1 : Int32))) (fun h => by rw [Bd.returns] at h; cases h) Bd.notSynchronized (fun fs hr => retN X113 hx (t := .boolean) Bd.returns (by simp) (hb hby at_148) hr) ?_ (by decide) (by decide)
                  show Q0 Z B p0 p1 cs fm wN wT wM wB wY wO h0 n0 _ T113.heap T113.vm _
                  exact ⟨rfl, N113⟩
                · refine own_goW (T' := s₁) (f' := (mkF m 121 #[.val (.int p0), .val (.int p1), .val (.int zm), .val (.int (2005 : Int32)), .unset] [(.int (2005 : Int32))])) (fun _ k => XS.iloadN X0.here hx rfl (hb hby at_120) rfl k) ?_
                  obtain ⟨_, _, ⟨T114, L114, k114, n114⟩, -, X114, hS114, hgr114, ⟨Lc114, hQ114, l114, y114, z114⟩, st114⟩ := callSS X0 hx (y := mn8) hown (mvT hZ (ow57 hw)) (mvT hZ (ow58 hw)) (mvT hZ (ow10 hw)) (mvT hZ (ow59 hw)) (by decide) (own_backS (W := 0) (rm9T l Z a0 hw [] (s.setVm s.vm) (2005 : Int32) cs fm wN wT wM wB wY wO h0 n0 Z0 S_cs hcs S_fm hfm S_N S_T S_M S_B S_Y S_O I1 (fun _ _ q => by rw [hZh]; exact q) hcw hh21 (by decide) (by decide) (by decide +kernel)) hZ (ow59 hw) (ow10 hw) (by decide) (by decide)) (g := (mkF m 121 #[.val (.int p0), .val (.int p1), .val (.int zm), .val (.int (2005 : Int32)), .unset] [(.int (2005 : Int32))])) rfl (by rw [hml]; rfl) (argsL := [(.int (2005 : Int32))]) (rest := []) (lenOf pd3 rfl) rfl (by show 2 * 0 + _ ≤ _; exact Nat.le_of_eq rfl) (hb hby at_121) (fun _ _ => ⟨rfl, e0, (by decide : 0 + 2 ≤ _), (by decide : 0 + 48 ≤ _)⟩)
                  dsimp only [Pt.U, Pt.locs, Pt.cells, Pt.slots] at X114 l114 y114 z114 st114 hQ114 hS114 hgr114
                  subst l114 y114 z114
                  have hM114 := hS114
                  obtain ⟨X114, hS, hZ, hown⟩ := rebS hS (by rw [e0]; exact (Nat.le_refl _) : _ ≤ s₁.heap.size) X114 hM114 hgr114 hZ hown
                  obtain ⟨rfl, N114q, K114⟩ := hQ114
                  have N114 := Fr.app N0 N114q
                  have KK114 : Keep h0 T114.heap [] := Keep.trans (Keep.refl h0 []) K114 all0
                  refine own_goW (T' := T114) (f' := (mkF m 135 #[.val (.int p0), .val (.int p1), .val (.int zm), .val (.int (2005 : Int32)), .val (.ref wT)] [(.int (2005 : Int32))])) (fun _ k => st114.trans (XS.astore X114.here hx rfl (hb hby at_124) rfl rfl (l' := #[.val (.int p0), .val (.int p1), .val (.int zm), .val (.int (2005 : Int32)), .val (.ref wT)]) rfl (XS.goto X114.here hx rfl (pc0 := 126) (pc' := 134) rfl (hb hby at_126) (by decide) (by decide) (XS.iloadN X114.here hx rfl (hb hby at_134) rfl k)))) ?_
                  obtain ⟨_, _, ⟨T115, L115, k115, n115⟩, -, X115, ⟨Lc115, hQ115, l115, y115, z115⟩, st115⟩ := Jvm.LawKit.callS X114 hx (y := mn5) hown (mvT hZ (ow4 hw)) (mvT hZ (ow5 hw)) (mvT hZ (ow2 hw)) (mvT hZ (ow6 hw)) (by decide) (backOf (W := 0) (rm1T l Z a0 hw [] (2005 : Int32) wN wT wM wB wY wO T114.heap n0 (Nat.le_trans Z0 K114.1) (own_sta_keep S_N K114 own_ws0) (own_sta_keep S_T K114 own_ws0) (own_sta_keep S_M K114 own_ws0) (own_sta_keep S_B K114 own_ws0) (own_sta_keep S_Y K114 own_ws0) (own_sta_keep S_O K114 own_ws0) (by decide +kernel)) hZ (ow6 hw) (ow2 hw) (by decide) (by decide)) (g := (mkF m 135 #[.val (.int p0), .val (.int p1), .val (.int zm), .val (.int (2005 : Int32)), .val (.ref wT)] [(.int (2005 : Int32))])) rfl (by rw [hml]; rfl) (argsL := [(.int (2005 : Int32))]) (rest := []) (lenOf pd3 rfl) rfl (by show 2 * 0 + _ ≤ _; exact Nat.le_of_eq rfl) (hb hby at_135) (fun _ _ => ⟨rfl, rfl, (by decide : 2 + 0 ≤ _), (by decide : 48 + 0 ≤ _)⟩)
                  dsimp only [Pt.U, Pt.locs, Pt.cells, Pt.slots] at X115 l115 y115 z115 st115 hQ115
                  subst l115 y115 z115
                  obtain ⟨rfl, N115q, hh115⟩ := hQ115
                  have N115 := Fr.app N114 N115q
                  refine own_goW (T' := T115) (f' := (mkF m 148 #[.val (.int p0), .val (.int p1), .val (.int zm), .val (.int (2005 : Int32)), .val (.ref wT)] [(.int (1 : Int32))])) (fun _ k => st115 _ (XS.aload X115.here hx rfl (hb hby at_138) rfl rfl (Jvm.RoadKit.acmp (g := (mkF m 140 #[.val (.int p0), .val (.int p1), .val (.int zm), .val (.int (2005 : Int32)), .val (.ref wT)] [(.ref wT), (.ref wT)])) X115 hx rfl rfl rfl (pc0 := 140) (pc' := 143) (same := true) rfl (hb hby at_140) rfl (decide_eq_true rfl) (by decide) (by decide) (XS.iconst X115.here hx rfl (hb hby at_143) (XS.goto X115.here hx rfl (pc0 := 144) (pc' := 148) rfl (hb hby at_144) (by decide) (by decide) k))))) ?_
                  refine own_retW X115 hS (by rw [hh115]; exact (Nat.le_refl _)) (v := some (.int (1 : Int32))) (fun h => by rw [Bd.returns] at h; cases h) Bd.notSynchronized (fun fs hr => retN X115 hx (t := .boolean) Bd.returns (by simp) (hb hby at_148) hr) ?_ (by decide) (by decide)
                  show Q0 Z B p0 p1 cs fm wN wT wM wB wY wO h0 n0 _ T115.heap T115.vm _
                  exact ⟨rfl, N115⟩
                · refine own_goW (T' := s₁) (f' := (mkF m 121 #[.val (.int p0), .val (.int p1), .val (.int zm), .val (.int (2006 : Int32)), .unset] [(.int (2006 : Int32))])) (fun _ k => XS.iloadN X0.here hx rfl (hb hby at_120) rfl k) ?_
                  obtain ⟨_, _, ⟨T116, L116, k116, n116⟩, -, X116, hS116, hgr116, ⟨Lc116, hQ116, l116, y116, z116⟩, st116⟩ := callSS X0 hx (y := mn8) hown (mvT hZ (ow57 hw)) (mvT hZ (ow58 hw)) (mvT hZ (ow10 hw)) (mvT hZ (ow59 hw)) (by decide) (own_backS (W := 0) (rm9O l Z a0 hw [] (s.setVm s.vm) (2006 : Int32) cs fm wN wT wM wB wY wO h0 n0 Z0 S_cs hcs S_fm hfm S_N S_T S_M S_B S_Y S_O I1 (fun _ _ q => by rw [hZh]; exact q) hcw hh21 (by decide) (by decide) (by decide +kernel)) hZ (ow59 hw) (ow10 hw) (by decide) (by decide)) (g := (mkF m 121 #[.val (.int p0), .val (.int p1), .val (.int zm), .val (.int (2006 : Int32)), .unset] [(.int (2006 : Int32))])) rfl (by rw [hml]; rfl) (argsL := [(.int (2006 : Int32))]) (rest := []) (lenOf pd3 rfl) rfl (by show 2 * 0 + _ ≤ _; exact Nat.le_of_eq rfl) (hb hby at_121) (fun _ _ => ⟨rfl, e0, (by decide : 0 + 2 ≤ _), (by decide : 0 + 48 ≤ _)⟩)
                  dsimp only [Pt.U, Pt.locs, Pt.cells, Pt.slots] at X116 l116 y116 z116 st116 hQ116 hS116 hgr116
                  subst l116 y116 z116
                  have hM116 := hS116
                  obtain ⟨X116, hS, hZ, hown⟩ := rebS hS (by rw [e0]; exact (Nat.le_refl _) : _ ≤ s₁.heap.size) X116 hM116 hgr116 hZ hown
                  obtain ⟨rfl, N116q, K116⟩ := hQ116
                  have N116 := Fr.app N0 N116q
                  have KK116 : Keep h0 T116.heap [] := Keep.trans (Keep.refl h0 []) K116 all0
                  refine own_goW (T' := T116) (f' := (mkF m 135 #[.val (.int p0), .val (.int p1), .val (.int zm), .val (.int (2006 : Int32)), .val (.ref wO)] [(.int (2006 : Int32))])) (fun _ k => st116.trans (XS.astore X116.here hx rfl (hb hby at_124) rfl rfl (l' := #[.val (.int p0), .val (.int p1), .val (.int zm), .val (.int (2006 : Int32)), .val (.ref wO)]) rfl (XS.goto X116.here hx rfl (pc0 := 126) (pc' := 134) rfl (hb hby at_126) (by decide) (by decide) (XS.iloadN X116.here hx rfl (hb hby at_134) rfl k)))) ?_
                  obtain ⟨_, _, ⟨T117, L117, k117, n117⟩, -, X117, ⟨Lc117, hQ117, l117, y117, z117⟩, st117⟩ := Jvm.LawKit.callS X116 hx (y := mn5) hown (mvT hZ (ow4 hw)) (mvT hZ (ow5 hw)) (mvT hZ (ow2 hw)) (mvT hZ (ow6 hw)) (by decide) (backOf (W := 0) (rm1O l Z a0 hw [] (2006 : Int32) wN wT wM wB wY wO T116.heap n0 (Nat.le_trans Z0 K116.1) (own_sta_keep S_N K116 own_ws0) (own_sta_keep S_T K116 own_ws0) (own_sta_keep S_M K116 own_ws0) (own_sta_keep S_B K116 own_ws0) (own_sta_keep S_Y K116 own_ws0) (own_sta_keep S_O K116 own_ws0) (by decide +kernel)) hZ (ow6 hw) (ow2 hw) (by decide) (by decide)) (g := (mkF m 135 #[.val (.int p0), .val (.int p1), .val (.int zm), .val (.int (2006 : Int32)), .val (.ref wO)] [(.int (2006 : Int32))])) rfl (by rw [hml]; rfl) (argsL := [(.int (2006 : Int32))]) (rest := []) (lenOf pd3 rfl) rfl (by show 2 * 0 + _ ≤ _; exact Nat.le_of_eq rfl) (hb hby at_135) (fun _ _ => ⟨rfl, rfl, (by decide : 2 + 0 ≤ _), (by decide : 48 + 0 ≤ _)⟩)
                  dsimp only [Pt.U, Pt.locs, Pt.cells, Pt.slots] at X117 l117 y117 z117 st117 hQ117
                  subst l117 y117 z117
                  obtain ⟨rfl, N117q, hh117⟩ := hQ117
                  have N117 := Fr.app N116 N117q
                  refine own_goW (T' := T117) (f' := (mkF m 148 #[.val (.int p0), .val (.int p1), .val (.int zm), .val (.int (2006 : Int32)), .val (.ref wO)] [(.int (1 : Int32))])) (fun _ k => st117 _ (XS.aload X117.here hx rfl (hb hby at_138) rfl rfl (Jvm.RoadKit.acmp (g := (mkF m 140 #[.val (.int p0), .val (.int p1), .val (.int zm), .val (.int (2006 : Int32)), .val (.ref wO)] [(.ref wO), (.ref wO)])) X117 hx rfl rfl rfl (pc0 := 140) (pc' := 143) (same := true) rfl (hb hby at_140) rfl (decide_eq_true rfl) (by decide) (by decide) (XS.iconst X117.here hx rfl (hb hby at_143) (XS.goto X117.here hx rfl (pc0 := 144) (pc' := 148) rfl (hb hby at_144) (by decide) (by decide) k))))) ?_
                  refine own_retW X117 hS (by rw [hh117]; exact (Nat.le_refl _)) (v := some (.int (1 : Int32))) (fun h => by rw [Bd.returns] at h; cases h) Bd.notSynchronized (fun fs hr => retN X117 hx (t := .boolean) Bd.returns (by simp) (hb hby at_148) hr) ?_ (by decide) (by decide)
                  show Q0 Z B p0 p1 cs fm wN wT wM wB wY wO h0 n0 _ T117.heap T117.vm _
                  exact ⟨rfl, N117⟩
                · refine own_goW (T' := s₁) (f' := (mkF m 121 #[.val (.int p0), .val (.int p1), .val (.int zm), .val (.int (2007 : Int32)), .unset] [(.int (2007 : Int32))])) (fun _ k => XS.iloadN X0.here hx rfl (hb hby at_120) rfl k) ?_
                  obtain ⟨_, _, ⟨T118, L118, k118, n118⟩, -, X118, hS118, hgr118, ⟨Lc118, hQ118, l118, y118, z118⟩, st118⟩ := callSS X0 hx (y := mn8) hown (mvT hZ (ow57 hw)) (mvT hZ (ow58 hw)) (mvT hZ (ow10 hw)) (mvT hZ (ow59 hw)) (by decide) (own_backS (W := 0) (rm9O l Z a0 hw [] (s.setVm s.vm) (2007 : Int32) cs fm wN wT wM wB wY wO h0 n0 Z0 S_cs hcs S_fm hfm S_N S_T S_M S_B S_Y S_O I1 (fun _ _ q => by rw [hZh]; exact q) hcw hh21 (by decide) (by decide) (by decide +kernel)) hZ (ow59 hw) (ow10 hw) (by decide) (by decide)) (g := (mkF m 121 #[.val (.int p0), .val (.int p1), .val (.int zm), .val (.int (2007 : Int32)), .unset] [(.int (2007 : Int32))])) rfl (by rw [hml]; rfl) (argsL := [(.int (2007 : Int32))]) (rest := []) (lenOf pd3 rfl) rfl (by show 2 * 0 + _ ≤ _; exact Nat.le_of_eq rfl) (hb hby at_121) (fun _ _ => ⟨rfl, e0, (by decide : 0 + 2 ≤ _), (by decide : 0 + 48 ≤ _)⟩)
                  dsimp only [Pt.U, Pt.locs, Pt.cells, Pt.slots] at X118 l118 y118 z118 st118 hQ118 hS118 hgr118
                  subst l118 y118 z118
                  have hM118 := hS118
                  obtain ⟨X118, hS, hZ, hown⟩ := rebS hS (by rw [e0]; exact (Nat.le_refl _) : _ ≤ s₁.heap.size) X118 hM118 hgr118 hZ hown
                  obtain ⟨rfl, N118q, K118⟩ := hQ118
                  have N118 := Fr.app N0 N118q
                  have KK118 : Keep h0 T118.heap [] := Keep.trans (Keep.refl h0 []) K118 all0
                  refine own_goW (T' := T118) (f' := (mkF m 135 #[.val (.int p0), .val (.int p1), .val (.int zm), .val (.int (2007 : Int32)), .val (.ref wO)] [(.int (2007 : Int32))])) (fun _ k => st118.trans (XS.astore X118.here hx rfl (hb hby at_124) rfl rfl (l' := #[.val (.int p0), .val (.int p1), .val (.int zm), .val (.int (2007 : Int32)), .val (.ref wO)]) rfl (XS.goto X118.here hx rfl (pc0 := 126) (pc' := 134) rfl (hb hby at_126) (by decide) (by decide) (XS.iloadN X118.here hx rfl (hb hby at_134) rfl k)))) ?_
                  obtain ⟨_, _, ⟨T119, L119, k119, n119⟩, -, X119, ⟨Lc119, hQ119, l119, y119, z119⟩, st119⟩ := Jvm.LawKit.callS X118 hx (y := mn5) hown (mvT hZ (ow4 hw)) (mvT hZ (ow5 hw)) (mvT hZ (ow2 hw)) (mvT hZ (ow6 hw)) (by decide) (backOf (W := 0) (rm1O l Z a0 hw [] (2007 : Int32) wN wT wM wB wY wO T118.heap n0 (Nat.le_trans Z0 K118.1) (own_sta_keep S_N K118 own_ws0) (own_sta_keep S_T K118 own_ws0) (own_sta_keep S_M K118 own_ws0) (own_sta_keep S_B K118 own_ws0) (own_sta_keep S_Y K118 own_ws0) (own_sta_keep S_O K118 own_ws0) (by decide +kernel)) hZ (ow6 hw) (ow2 hw) (by decide) (by decide)) (g := (mkF m 135 #[.val (.int p0), .val (.int p1), .val (.int zm), .val (.int (2007 : Int32)), .val (.ref wO)] [(.int (2007 : Int32))])) rfl (by rw [hml]; rfl) (argsL := [(.int (2007 : Int32))]) (rest := []) (lenOf pd3 rfl) rfl (by show 2 * 0 + _ ≤ _; exact Nat.le_of_eq rfl) (hb hby at_135) (fun _ _ => ⟨rfl, rfl, (by decide : 2 + 0 ≤ _), (by decide : 48 + 0 ≤ _)⟩)
                  dsimp only [Pt.U, Pt.locs, Pt.cells, Pt.slots] at X119 l119 y119 z119 st119 hQ119
                  subst l119 y119 z119
                  obtain ⟨rfl, N119q, hh119⟩ := hQ119
                  have N119 := Fr.app N118 N119q
                  refine own_goW (T' := T119) (f' := (mkF m 148 #[.val (.int p0), .val (.int p1), .val (.int zm), .val (.int (2007 : Int32)), .val (.ref wO)] [(.int (1 : Int32))])) (fun _ k => st119 _ (XS.aload X119.here hx rfl (hb hby at_138) rfl rfl (Jvm.RoadKit.acmp (g := (mkF m 140 #[.val (.int p0), .val (.int p1), .val (.int zm), .val (.int (2007 : Int32)), .val (.ref wO)] [(.ref wO), (.ref wO)])) X119 hx rfl rfl rfl (pc0 := 140) (pc' := 143) (same := true) rfl (hb hby at_140) rfl (decide_eq_true rfl) (by decide) (by decide) (XS.iconst X119.here hx rfl (hb hby at_143) (XS.goto X119.here hx rfl (pc0 := 144) (pc' := 148) rfl (hb hby at_144) (by decide) (by decide) k))))) ?_
                  refine own_retW X119 hS (by rw [hh119]; exact (Nat.le_refl _)) (v := some (.int (1 : Int32))) (fun h => by rw [Bd.returns] at h; cases h) Bd.notSynchronized (fun fs hr => retN X119 hx (t := .boolean) Bd.returns (by simp) (hb hby at_148) hr) ?_ (by decide) (by decide)
                  show Q0 Z B p0 p1 cs fm wN wT wM wB wY wO h0 n0 _ T119.heap T119.vm _
                  exact ⟨rfl, N119⟩
                · refine own_goW (T' := s₁) (f' := (mkF m 121 #[.val (.int p0), .val (.int p1), .val (.int zm), .val (.int (2008 : Int32)), .unset] [(.int (2008 : Int32))])) (fun _ k => XS.iloadN X0.here hx rfl (hb hby at_120) rfl k) ?_
                  obtain ⟨_, _, ⟨T120, L120, k120, n120⟩, -, X120, hS120, hgr120, ⟨Lc120, hQ120, l120, y120, z120⟩, st120⟩ := callSS X0 hx (y := mn8) hown (mvT hZ (ow57 hw)) (mvT hZ (ow58 hw)) (mvT hZ (ow10 hw)) (mvT hZ (ow59 hw)) (by decide) (own_backS (W := 0) (rm9O l Z a0 hw [] (s.setVm s.vm) (2008 : Int32) cs fm wN wT wM wB wY wO h0 n0 Z0 S_cs hcs S_fm hfm S_N S_T S_M S_B S_Y S_O I1 (fun _ _ q => by rw [hZh]; exact q) hcw hh21 (by decide) (by decide) (by decide +kernel)) hZ (ow59 hw) (ow10 hw) (by decide) (by decide)) (g := (mkF m 121 #[.val (.int p0), .val (.int p1), .val (.int zm), .val (.int (2008 : Int32)), .unset] [(.int (2008 : Int32))])) rfl (by rw [hml]; rfl) (argsL := [(.int (2008 : Int32))]) (rest := []) (lenOf pd3 rfl) rfl (by show 2 * 0 + _ ≤ _; exact Nat.le_of_eq rfl) (hb hby at_121) (fun _ _ => ⟨rfl, e0, (by decide : 0 + 2 ≤ _), (by decide : 0 + 48 ≤ _)⟩)
                  dsimp only [Pt.U, Pt.locs, Pt.cells, Pt.slots] at X120 l120 y120 z120 st120 hQ120 hS120 hgr120
                  subst l120 y120 z120
                  have hM120 := hS120
                  obtain ⟨X120, hS, hZ, hown⟩ := rebS hS (by rw [e0]; exact (Nat.le_refl _) : _ ≤ s₁.heap.size) X120 hM120 hgr120 hZ hown
                  obtain ⟨rfl, N120q, K120⟩ := hQ120
                  have N120 := Fr.app N0 N120q
                  have KK120 : Keep h0 T120.heap [] := Keep.trans (Keep.refl h0 []) K120 all0
                  refine own_goW (T' := T120) (f' := (mkF m 135 #[.val (.int p0), .val (.int p1), .val (.int zm), .val (.int (2008 : Int32)), .val (.ref wO)] [(.int (2008 : Int32))])) (fun _ k => st120.trans (XS.astore X120.here hx rfl (hb hby at_124) rfl rfl (l' := #[.val (.int p0), .val (.int p1), .val (.int zm), .val (.int (2008 : Int32)), .val (.ref wO)]) rfl (XS.goto X120.here hx rfl (pc0 := 126) (pc' := 134) rfl (hb hby at_126) (by decide) (by decide) (XS.iloadN X120.here hx rfl (hb hby at_134) rfl k)))) ?_
                  obtain ⟨_, _, ⟨T121, L121, k121, n121⟩, -, X121, ⟨Lc121, hQ121, l121, y121, z121⟩, st121⟩ := Jvm.LawKit.callS X120 hx (y := mn5) hown (mvT hZ (ow4 hw)) (mvT hZ (ow5 hw)) (mvT hZ (ow2 hw)) (mvT hZ (ow6 hw)) (by decide) (backOf (W := 0) (rm1O l Z a0 hw [] (2008 : Int32) wN wT wM wB wY wO T120.heap n0 (Nat.le_trans Z0 K120.1) (own_sta_keep S_N K120 own_ws0) (own_sta_keep S_T K120 own_ws0) (own_sta_keep S_M K120 own_ws0) (own_sta_keep S_B K120 own_ws0) (own_sta_keep S_Y K120 own_ws0) (own_sta_keep S_O K120 own_ws0) (by decide +kernel)) hZ (ow6 hw) (ow2 hw) (by decide) (by decide)) (g := (mkF m 135 #[.val (.int p0), .val (.int p1), .val (.int zm), .val (.int (2008 : Int32)), .val (.ref wO)] [(.int (2008 : Int32))])) rfl (by rw [hml]; rfl) (argsL := [(.int (2008 : Int32))]) (rest := []) (lenOf pd3 rfl) rfl (by show 2 * 0 + _ ≤ _; exact Nat.le_of_eq rfl) (hb hby at_135) (fun _ _ => ⟨rfl, rfl, (by decide : 2 + 0 ≤ _), (by decide : 48 + 0 ≤ _)⟩)
                  dsimp only [Pt.U, Pt.locs, Pt.cells, Pt.slots] at X121 l121 y121 z121 st121 hQ121
                  subst l121 y121 z121
                  obtain ⟨rfl, N121q, hh121⟩ := hQ121
                  have N121 := Fr.app N120 N121q
                  refine own_goW (T' := T121) (f' := (mkF m 148 #[.val (.int p0), .val (.int p1), .val (.int zm), .val (.int (2008 : Int32)), .val (.ref wO)] [(.int (1 : Int32))])) (fun _ k => st121 _ (XS.aload X121.here hx rfl (hb hby at_138) rfl rfl (Jvm.RoadKit.acmp (g := (mkF m 140 #[.val (.int p0), .val (.int p1), .val (.int zm), .val (.int (2008 : Int32)), .val (.ref wO)] [(.ref wO), (.ref wO)])) X121 hx rfl rfl rfl (pc0 := 140) (pc' := 143) (same := true) rfl (hb hby at_140) rfl (decide_eq_true rfl) (by decide) (by decide) (XS.iconst X121.here hx rfl (hb hby at_143) (XS.goto X121.here hx rfl (pc0 := 144) (pc' := 148) rfl (hb hby at_144) (by decide) (by decide) k))))) ?_
                  refine own_retW X121 hS (by rw [hh121]; exact (Nat.le_refl _)) (v := some (.int (1 : Int32))) (fun h => by rw [Bd.returns] at h; cases h) Bd.notSynchronized (fun fs hr => retN X121 hx (t := .boolean) Bd.returns (by simp) (hb hby at_148) hr) ?_ (by decide) (by decide)
                  show Q0 Z B p0 p1 cs fm wN wT wM wB wY wO h0 n0 _ T121.heap T121.vm _
                  exact ⟨rfl, N121⟩
                · refine own_goW (T' := s₁) (f' := (mkF m 121 #[.val (.int p0), .val (.int p1), .val (.int zm), .val (.int (2009 : Int32)), .unset] [(.int (2009 : Int32))])) (fun _ k => XS.iloadN X0.here hx rfl (hb hby at_120) rfl k) ?_
                  obtain ⟨_, _, ⟨T122, L122, k122, n122⟩, -, X122, hS122, hgr122, ⟨Lc122, hQ122, l122, y122, z122⟩, st122⟩ := callSS X0 hx (y := mn8) hown (mvT hZ (ow57 hw)) (mvT hZ (ow58 hw)) (mvT hZ (ow10 hw)) (mvT hZ (ow59 hw)) (by decide) (own_backS (W := 0) (rm9O l Z a0 hw [] (s.setVm s.vm) (2009 : Int32) cs fm wN wT wM wB wY wO h0 n0 Z0 S_cs hcs S_fm hfm S_N S_T S_M S_B S_Y S_O I1 (fun _ _ q => by rw [hZh]; exact q) hcw hh21 (by decide) (by decide) (by decide +kernel)) hZ (ow59 hw) (ow10 hw) (by decide) (by decide)) (g := (mkF m 121 #[.val (.int p0), .val (.int p1), .val (.int zm), .val (.int (2009 : Int32)), .unset] [(.int (2009 : Int32))])) rfl (by rw [hml]; rfl) (argsL := [(.int (2009 : Int32))]) (rest := []) (lenOf pd3 rfl) rfl (by show 2 * 0 + _ ≤ _; exact Nat.le_of_eq rfl) (hb hby at_121) (fun _ _ => ⟨rfl, e0, (by decide : 0 + 2 ≤ _), (by decide : 0 + 48 ≤ _)⟩)
                  dsimp only [Pt.U, Pt.locs, Pt.cells, Pt.slots] at X122 l122 y122 z122 st122 hQ122 hS122 hgr122
                  subst l122 y122 z122
                  have hM122 := hS122
                  obtain ⟨X122, hS, hZ, hown⟩ := rebS hS (by rw [e0]; exact (Nat.le_refl _) : _ ≤ s₁.heap.size) X122 hM122 hgr122 hZ hown
                  obtain ⟨rfl, N122q, K122⟩ := hQ122
                  have N122 := Fr.app N0 N122q
                  have KK122 : Keep h0 T122.heap [] := Keep.trans (Keep.refl h0 []) K122 all0
                  refine own_goW (T' := T122) (f' := (mkF m 135 #[.val (.int p0), .val (.int p1), .val (.int zm), .val (.int (2009 : Int32)), .val (.ref wO)] [(.int (2009 : Int32))])) (fun _ k => st122.trans (XS.astore X122.here hx rfl (hb hby at_124) rfl rfl (l' := #[.val (.int p0), .val (.int p1), .val (.int zm), .val (.int (2009 : Int32)), .val (.ref wO)]) rfl (XS.goto X122.here hx rfl (pc0 := 126) (pc' := 134) rfl (hb hby at_126) (by decide) (by decide) (XS.iloadN X122.here hx rfl (hb hby at_134) rfl k)))) ?_
                  obtain ⟨_, _, ⟨T123, L123, k123, n123⟩, -, X123, ⟨Lc123, hQ123, l123, y123, z123⟩, st123⟩ := Jvm.LawKit.callS X122 hx (y := mn5) hown (mvT hZ (ow4 hw)) (mvT hZ (ow5 hw)) (mvT hZ (ow2 hw)) (mvT hZ (ow6 hw)) (by decide) (backOf (W := 0) (rm1O l Z a0 hw [] (2009 : Int32) wN wT wM wB wY wO T122.heap n0 (Nat.le_trans Z0 K122.1) (own_sta_keep S_N K122 own_ws0) (own_sta_keep S_T K122 own_ws0) (own_sta_keep S_M K122 own_ws0) (own_sta_keep S_B K122 own_ws0) (own_sta_keep S_Y K122 own_ws0) (own_sta_keep S_O K122 own_ws0) (by decide +kernel)) hZ (ow6 hw) (ow2 hw) (by decide) (by decide)) (g := (mkF m 135 #[.val (.int p0), .val (.int p1), .val (.int zm), .val (.int (2009 : Int32)), .val (.ref wO)] [(.int (2009 : Int32))])) rfl (by rw [hml]; rfl) (argsL := [(.int (2009 : Int32))]) (rest := []) (lenOf pd3 rfl) rfl (by show 2 * 0 + _ ≤ _; exact Nat.le_of_eq rfl) (hb hby at_135) (fun _ _ => ⟨rfl, rfl, (by decide : 2 + 0 ≤ _), (by decide : 48 + 0 ≤ _)⟩)
                  dsimp only [Pt.U, Pt.locs, Pt.cells, Pt.slots] at X123 l123 y123 z123 st123 hQ123
                  subst l123 y123 z123
                  obtain ⟨rfl, N123q, hh123⟩ := hQ123
                  have N123 := Fr.app N122 N123q
                  refine own_goW (T' := T123) (f' := (mkF m 148 #[.val (.int p0), .val (.int p1), .val (.int zm), .val (.int (2009 : Int32)), .val (.ref wO)] [(.int (1 : Int32))])) (fun _ k => st123 _ (XS.aload X123.here hx rfl (hb hby at_138) rfl rfl (Jvm.RoadKit.acmp (g := (mkF m 140 #[.val (.int p0), .val (.int p1), .val (.int zm), .val (.int (2009 : Int32)), .val (.ref wO)] [(.ref wO), (.ref wO)])) X123 hx rfl rfl rfl (pc0 := 140) (pc' := 143) (same := true) rfl (hb hby at_140) rfl (decide_eq_true rfl) (by decide) (by decide) (XS.iconst X123.here hx rfl (hb hby at_143) (XS.goto X123.here hx rfl (pc0 := 144) (pc' := 148) rfl (hb hby at_144) (by decide) (by decide) k))))) ?_
                  refine own_retW X123 hS (by rw [hh123]; exact (Nat.le_refl _)) (v := some (.int (1 : Int32))) (fun h => by rw [Bd.returns] at h; cases h) Bd.notSynchronized (fun fs hr => retN X123 hx (t := .boolean) Bd.returns (by simp) (hb hby at_148) hr) ?_ (by decide) (by decide)
                  show Q0 Z B p0 p1 cs fm wN wT wM wB wY wO h0 n0 _ T123.heap T123.vm _
                  exact ⟨rfl, N123⟩
                · refine own_goW (T' := s₁) (f' := (mkF m 121 #[.val (.int p0), .val (.int p1), .val (.int zm), .val (.int (2010 : Int32)), .unset] [(.int (2010 : Int32))])) (fun _ k => XS.iloadN X0.here hx rfl (hb hby at_120) rfl k) ?_
                  obtain ⟨_, _, ⟨T124, L124, k124, n124⟩, -, X124, hS124, hgr124, ⟨Lc124, hQ124, l124, y124, z124⟩, st124⟩ := callSS X0 hx (y := mn8) hown (mvT hZ (ow57 hw)) (mvT hZ (ow58 hw)) (mvT hZ (ow10 hw)) (mvT hZ (ow59 hw)) (by decide) (own_backS (W := 0) (rm9O l Z a0 hw [] (s.setVm s.vm) (2010 : Int32) cs fm wN wT wM wB wY wO h0 n0 Z0 S_cs hcs S_fm hfm S_N S_T S_M S_B S_Y S_O I1 (fun _ _ q => by rw [hZh]; exact q) hcw hh21 (by decide) (by decide) (by decide +kernel)) hZ (ow59 hw) (ow10 hw) (by decide) (by decide)) (g := (mkF m 121 #[.val (.int p0), .val (.int p1), .val (.int zm), .val (.int (2010 : Int32)), .unset] [(.int (2010 : Int32))])) rfl (by rw [hml]; rfl) (argsL := [(.int (2010 : Int32))]) (rest := []) (lenOf pd3 rfl) rfl (by show 2 * 0 + _ ≤ _; exact Nat.le_of_eq rfl) (hb hby at_121) (fun _ _ => ⟨rfl, e0, (by decide : 0 + 2 ≤ _), (by decide : 0 + 48 ≤ _)⟩)
                  dsimp only [Pt.U, Pt.locs, Pt.cells, Pt.slots] at X124 l124 y124 z124 st124 hQ124 hS124 hgr124
                  subst l124 y124 z124
                  have hM124 := hS124
                  obtain ⟨X124, hS, hZ, hown⟩ := rebS hS (by rw [e0]; exact (Nat.le_refl _) : _ ≤ s₁.heap.size) X124 hM124 hgr124 hZ hown
                  obtain ⟨rfl, N124q, K124⟩ := hQ124
                  have N124 := Fr.app N0 N124q
                  have KK124 : Keep h0 T124.heap [] := Keep.trans (Keep.refl h0 []) K124 all0
                  refine own_goW (T' := T124) (f' := (mkF m 135 #[.val (.int p0), .val (.int p1), .val (.int zm), .val (.int (2010 : Int32)), .val (.ref wO)] [(.int (2010 : Int32))])) (fun _ k => st124.trans (XS.astore X124.here hx rfl (hb hby at_124) rfl rfl (l' := #[.val (.int p0), .val (.int p1), .val (.int zm), .val (.int (2010 : Int32)), .val (.ref wO)]) rfl (XS.goto X124.here hx rfl (pc0 := 126) (pc' := 134) rfl (hb hby at_126) (by decide) (by decide) (XS.iloadN X124.here hx rfl (hb hby at_134) rfl k)))) ?_
                  obtain ⟨_, _, ⟨T125, L125, k125, n125⟩, -, X125, ⟨Lc125, hQ125, l125, y125, z125⟩, st125⟩ := Jvm.LawKit.callS X124 hx (y := mn5) hown (mvT hZ (ow4 hw)) (mvT hZ (ow5 hw)) (mvT hZ (ow2 hw)) (mvT hZ (ow6 hw)) (by decide) (backOf (W := 0) (rm1O l Z a0 hw [] (2010 : Int32) wN wT wM wB wY wO T124.heap n0 (Nat.le_trans Z0 K124.1) (own_sta_keep S_N K124 own_ws0) (own_sta_keep S_T K124 own_ws0) (own_sta_keep S_M K124 own_ws0) (own_sta_keep S_B K124 own_ws0) (own_sta_keep S_Y K124 own_ws0) (own_sta_keep S_O K124 own_ws0) (by decide +kernel)) hZ (ow6 hw) (ow2 hw) (by decide) (by decide)) (g := (mkF m 135 #[.val (.int p0), .val (.int p1), .val (.int zm), .val (.int (2010 : Int32)), .val (.ref wO)] [(.int (2010 : Int32))])) rfl (by rw [hml]; rfl) (argsL := [(.int (2010 : Int32))]) (rest := []) (lenOf pd3 rfl) rfl (by show 2 * 0 + _ ≤ _; exact Nat.le_of_eq rfl) (hb hby at_135) (fun _ _ => ⟨rfl, rfl, (by decide : 2 + 0 ≤ _), (by decide : 48 + 0 ≤ _)⟩)
                  dsimp only [Pt.U, Pt.locs, Pt.cells, Pt.slots] at X125 l125 y125 z125 st125 hQ125
                  subst l125 y125 z125
                  obtain ⟨rfl, N125q, hh125⟩ := hQ125
                  have N125 := Fr.app N124 N125q
                  refine own_goW (T' := T125) (f' := (mkF m 148 #[.val (.int p0), .val (.int p1), .val (.int zm), .val (.int (2010 : Int32)), .val (.ref wO)] [(.int (1 : Int32))])) (fun _ k => st125 _ (XS.aload X125.here hx rfl (hb hby at_138) rfl rfl (Jvm.RoadKit.acmp (g := (mkF m 140 #[.val (.int p0), .val (.int p1), .val (.int zm), .val (.int (2010 : Int32)), .val (.ref wO)] [(.ref wO), (.ref wO)])) X125 hx rfl rfl rfl (pc0 := 140) (pc' := 143) (same := true) rfl (hb hby at_140) rfl (decide_eq_true rfl) (by decide) (by decide) (XS.iconst X125.here hx rfl (hb hby at_143) (XS.goto X125.here hx rfl (pc0 := 144) (pc' := 148) rfl (hb hby at_144) (by decide) (by decide) k))))) ?_
                  refine own_retW X125 hS (by rw [hh125]; exact (Nat.le_refl _)) (v := some (.int (1 : Int32))) (fun h => by rw [Bd.returns] at h; cases h) Bd.notSynchronized (fun fs hr => retN X125 hx (t := .boolean) Bd.returns (by simp) (hb hby at_148) hr) ?_ (by decide) (by decide)
                  show Q0 Z B p0 p1 cs fm wN wT wM wB wY wO h0 n0 _ T125.heap T125.vm _
                  exact ⟨rfl, N125⟩
                · refine own_goW (T' := s₁) (f' := (mkF m 121 #[.val (.int p0), .val (.int p1), .val (.int zm), .val (.int (2011 : Int32)), .unset] [(.int (2011 : Int32))])) (fun _ k => XS.iloadN X0.here hx rfl (hb hby at_120) rfl k) ?_
                  obtain ⟨_, _, ⟨T126, L126, k126, n126⟩, -, X126, hS126, hgr126, ⟨Lc126, hQ126, l126, y126, z126⟩, st126⟩ := callSS X0 hx (y := mn8) hown (mvT hZ (ow57 hw)) (mvT hZ (ow58 hw)) (mvT hZ (ow10 hw)) (mvT hZ (ow59 hw)) (by decide) (own_backS (W := 0) (rm9T l Z a0 hw [] (s.setVm s.vm) (2011 : Int32) cs fm wN wT wM wB wY wO h0 n0 Z0 S_cs hcs S_fm hfm S_N S_T S_M S_B S_Y S_O I1 (fun _ _ q => by rw [hZh]; exact q) hcw hh21 (by decide) (by decide) (by decide +kernel)) hZ (ow59 hw) (ow10 hw) (by decide) (by decide)) (g := (mkF m 121 #[.val (.int p0), .val (.int p1), .val (.int zm), .val (.int (2011 : Int32)), .unset] [(.int (2011 : Int32))])) rfl (by rw [hml]; rfl) (argsL := [(.int (2011 : Int32))]) (rest := []) (lenOf pd3 rfl) rfl (by show 2 * 0 + _ ≤ _; exact Nat.le_of_eq rfl) (hb hby at_121) (fun _ _ => ⟨rfl, e0, (by decide : 0 + 2 ≤ _), (by decide : 0 + 48 ≤ _)⟩)
                  dsimp only [Pt.U, Pt.locs, Pt.cells, Pt.slots] at X126 l126 y126 z126 st126 hQ126 hS126 hgr126
                  subst l126 y126 z126
                  have hM126 := hS126
                  obtain ⟨X126, hS, hZ, hown⟩ := rebS hS (by rw [e0]; exact (Nat.le_refl _) : _ ≤ s₁.heap.size) X126 hM126 hgr126 hZ hown
                  obtain ⟨rfl, N126q, K126⟩ := hQ126
                  have N126 := Fr.app N0 N126q
                  have KK126 : Keep h0 T126.heap [] := Keep.trans (Keep.refl h0 []) K126 all0
                  refine own_goW (T' := T126) (f' := (mkF m 135 #[.val (.int p0), .val (.int p1), .val (.int zm), .val (.int (2011 : Int32)), .val (.ref wT)] [(.int (2011 : Int32))])) (fun _ k => st126.trans (XS.astore X126.here hx rfl (hb hby at_124) rfl rfl (l' := #[.val (.int p0), .val (.int p1), .val (.int zm), .val (.int (2011 : Int32)), .val (.ref wT)]) rfl (XS.goto X126.here hx rfl (pc0 := 126) (pc' := 134) rfl (hb hby at_126) (by decide) (by decide) (XS.iloadN X126.here hx rfl (hb hby at_134) rfl k)))) ?_
                  obtain ⟨_, _, ⟨T127, L127, k127, n127⟩, -, X127, ⟨Lc127, hQ127, l127, y127, z127⟩, st127⟩ := Jvm.LawKit.callS X126 hx (y := mn5) hown (mvT hZ (ow4 hw)) (mvT hZ (ow5 hw)) (mvT hZ (ow2 hw)) (mvT hZ (ow6 hw)) (by decide) (backOf (W := 0) (rm1T l Z a0 hw [] (2011 : Int32) wN wT wM wB wY wO T126.heap n0 (Nat.le_trans Z0 K126.1) (own_sta_keep S_N K126 own_ws0) (own_sta_keep S_T K126 own_ws0) (own_sta_keep S_M K126 own_ws0) (own_sta_keep S_B K126 own_ws0) (own_sta_keep S_Y K126 own_ws0) (own_sta_keep S_O K126 own_ws0) (by decide +kernel)) hZ (ow6 hw) (ow2 hw) (by decide) (by decide)) (g := (mkF m 135 #[.val (.int p0), .val (.int p1), .val (.int zm), .val (.int (2011 : Int32)), .val (.ref wT)] [(.int (2011 : Int32))])) rfl (by rw [hml]; rfl) (argsL := [(.int (2011 : Int32))]) (rest := []) (lenOf pd3 rfl) rfl (by show 2 * 0 + _ ≤ _; exact Nat.le_of_eq rfl) (hb hby at_135) (fun _ _ => ⟨rfl, rfl, (by decide : 2 + 0 ≤ _), (by decide : 48 + 0 ≤ _)⟩)
                  dsimp only [Pt.U, Pt.locs, Pt.cells, Pt.slots] at X127 l127 y127 z127 st127 hQ127
                  subst l127 y127 z127
                  obtain ⟨rfl, N127q, hh127⟩ := hQ127
                  have N127 := Fr.app N126 N127q
                  refine own_goW (T' := T127) (f' := (mkF m 148 #[.val (.int p0), .val (.int p1), .val (.int zm), .val (.int (2011 : Int32)), .val (.ref wT)] [(.int (1 : Int32))])) (fun _ k => st127 _ (XS.aload X127.here hx rfl (hb hby at_138) rfl rfl (Jvm.RoadKit.acmp (g := (mkF m 140 #[.val (.int p0), .val (.int p1), .val (.int zm), .val (.int (2011 : Int32)), .val (.ref wT)] [(.ref wT), (.ref wT)])) X127 hx rfl rfl rfl (pc0 := 140) (pc' := 143) (same := true) rfl (hb hby at_140) rfl (decide_eq_true rfl) (by decide) (by decide) (XS.iconst X127.here hx rfl (hb hby at_143) (XS.goto X127.here hx rfl (pc0 := 144) (pc' := 148) rfl (hb hby at_144) (by decide) (by decide) k))))) ?_
                  refine own_retW X127 hS (by rw [hh127]; exact (Nat.le_refl _)) (v := some (.int (1 : Int32))) (fun h => by rw [Bd.returns] at h; cases h) Bd.notSynchronized (fun fs hr => retN X127 hx (t := .boolean) Bd.returns (by simp) (hb hby at_148) hr) ?_ (by decide) (by decide)
                  show Q0 Z B p0 p1 cs fm wN wT wM wB wY wO h0 n0 _ T127.heap T127.vm _
                  exact ⟨rfl, N127⟩
                · refine own_goW (T' := s₁) (f' := (mkF m 121 #[.val (.int p0), .val (.int p1), .val (.int zm), .val (.int (2012 : Int32)), .unset] [(.int (2012 : Int32))])) (fun _ k => XS.iloadN X0.here hx rfl (hb hby at_120) rfl k) ?_
                  obtain ⟨_, _, ⟨T128, L128, k128, n128⟩, -, X128, hS128, hgr128, ⟨Lc128, hQ128, l128, y128, z128⟩, st128⟩ := callSS X0 hx (y := mn8) hown (mvT hZ (ow57 hw)) (mvT hZ (ow58 hw)) (mvT hZ (ow10 hw)) (mvT hZ (ow59 hw)) (by decide) (own_backS (W := 0) (rm9O l Z a0 hw [] (s.setVm s.vm) (2012 : Int32) cs fm wN wT wM wB wY wO h0 n0 Z0 S_cs hcs S_fm hfm S_N S_T S_M S_B S_Y S_O I1 (fun _ _ q => by rw [hZh]; exact q) hcw hh21 (by decide) (by decide) (by decide +kernel)) hZ (ow59 hw) (ow10 hw) (by decide) (by decide)) (g := (mkF m 121 #[.val (.int p0), .val (.int p1), .val (.int zm), .val (.int (2012 : Int32)), .unset] [(.int (2012 : Int32))])) rfl (by rw [hml]; rfl) (argsL := [(.int (2012 : Int32))]) (rest := []) (lenOf pd3 rfl) rfl (by show 2 * 0 + _ ≤ _; exact Nat.le_of_eq rfl) (hb hby at_121) (fun _ _ => ⟨rfl, e0, (by decide : 0 + 2 ≤ _), (by decide : 0 + 48 ≤ _)⟩)
                  dsimp only [Pt.U, Pt.locs, Pt.cells, Pt.slots] at X128 l128 y128 z128 st128 hQ128 hS128 hgr128
                  subst l128 y128 z128
                  have hM128 := hS128
                  obtain ⟨X128, hS, hZ, hown⟩ := rebS hS (by rw [e0]; exact (Nat.le_refl _) : _ ≤ s₁.heap.size) X128 hM128 hgr128 hZ hown
                  obtain ⟨rfl, N128q, K128⟩ := hQ128
                  have N128 := Fr.app N0 N128q
                  have KK128 : Keep h0 T128.heap [] := Keep.trans (Keep.refl h0 []) K128 all0
                  refine own_goW (T' := T128) (f' := (mkF m 135 #[.val (.int p0), .val (.int p1), .val (.int zm), .val (.int (2012 : Int32)), .val (.ref wO)] [(.int (2012 : Int32))])) (fun _ k => st128.trans (XS.astore X128.here hx rfl (hb hby at_124) rfl rfl (l' := #[.val (.int p0), .val (.int p1), .val (.int zm), .val (.int (2012 : Int32)), .val (.ref wO)]) rfl (XS.goto X128.here hx rfl (pc0 := 126) (pc' := 134) rfl (hb hby at_126) (by decide) (by decide) (XS.iloadN X128.here hx rfl (hb hby at_134) rfl k)))) ?_
                  obtain ⟨_, _, ⟨T129, L129, k129, n129⟩, -, X129, ⟨Lc129, hQ129, l129, y129, z129⟩, st129⟩ := Jvm.LawKit.callS X128 hx (y := mn5) hown (mvT hZ (ow4 hw)) (mvT hZ (ow5 hw)) (mvT hZ (ow2 hw)) (mvT hZ (ow6 hw)) (by decide) (backOf (W := 0) (rm1O l Z a0 hw [] (2012 : Int32) wN wT wM wB wY wO T128.heap n0 (Nat.le_trans Z0 K128.1) (own_sta_keep S_N K128 own_ws0) (own_sta_keep S_T K128 own_ws0) (own_sta_keep S_M K128 own_ws0) (own_sta_keep S_B K128 own_ws0) (own_sta_keep S_Y K128 own_ws0) (own_sta_keep S_O K128 own_ws0) (by decide +kernel)) hZ (ow6 hw) (ow2 hw) (by decide) (by decide)) (g := (mkF m 135 #[.val (.int p0), .val (.int p1), .val (.int zm), .val (.int (2012 : Int32)), .val (.ref wO)] [(.int (2012 : Int32))])) rfl (by rw [hml]; rfl) (argsL := [(.int (2012 : Int32))]) (rest := []) (lenOf pd3 rfl) rfl (by show 2 * 0 + _ ≤ _; exact Nat.le_of_eq rfl) (hb hby at_135) (fun _ _ => ⟨rfl, rfl, (by decide : 2 + 0 ≤ _), (by decide : 48 + 0 ≤ _)⟩)
                  dsimp only [Pt.U, Pt.locs, Pt.cells, Pt.slots] at X129 l129 y129 z129 st129 hQ129
                  subst l129 y129 z129
                  obtain ⟨rfl, N129q, hh129⟩ := hQ129
                  have N129 := Fr.app N128 N129q
                  refine own_goW (T' := T129) (f' := (mkF m 148 #[.val (.int p0), .val (.int p1), .val (.int zm), .val (.int (2012 : Int32)), .val (.ref wO)] [(.int (1 : Int32))])) (fun _ k => st129 _ (XS.aload X129.here hx rfl (hb hby at_138) rfl rfl (Jvm.RoadKit.acmp (g := (mkF m 140 #[.val (.int p0), .val (.int p1), .val (.int zm), .val (.int (2012 : Int32)), .val (.ref wO)] [(.ref wO), (.ref wO)])) X129 hx rfl rfl rfl (pc0 := 140) (pc' := 143) (same := true) rfl (hb hby at_140) rfl (decide_eq_true rfl) (by decide) (by decide) (XS.iconst X129.here hx rfl (hb hby at_143) (XS.goto X129.here hx rfl (pc0 := 144) (pc' := 148) rfl (hb hby at_144) (by decide) (by decide) k))))) ?_
                  refine own_retW X129 hS (by rw [hh129]; exact (Nat.le_refl _)) (v := some (.int (1 : Int32))) (fun h => by rw [Bd.returns] at h; cases h) Bd.notSynchronized (fun fs hr => retN X129 hx (t := .boolean) Bd.returns (by simp) (hb hby at_148) hr) ?_ (by decide) (by decide)
                  show Q0 Z B p0 p1 cs fm wN wT wM wB wY wO h0 n0 _ T129.heap T129.vm _
                  exact ⟨rfl, N129⟩
                · refine own_goW (T' := s₁) (f' := (mkF m 121 #[.val (.int p0), .val (.int p1), .val (.int zm), .val (.int (2013 : Int32)), .unset] [(.int (2013 : Int32))])) (fun _ k => XS.iloadN X0.here hx rfl (hb hby at_120) rfl k) ?_
                  obtain ⟨_, _, ⟨T130, L130, k130, n130⟩, -, X130, hS130, hgr130, ⟨Lc130, hQ130, l130, y130, z130⟩, st130⟩ := callSS X0 hx (y := mn8) hown (mvT hZ (ow57 hw)) (mvT hZ (ow58 hw)) (mvT hZ (ow10 hw)) (mvT hZ (ow59 hw)) (by decide) (own_backS (W := 0) (rm9M l Z a0 hw [] (s.setVm s.vm) (2013 : Int32) cs fm wN wT wM wB wY wO h0 n0 Z0 S_cs hcs S_fm hfm S_N S_T S_M S_B S_Y S_O I1 (fun _ _ q => by rw [hZh]; exact q) hcw hh21 (by decide) (by decide) (by decide +kernel)) hZ (ow59 hw) (ow10 hw) (by decide) (by decide)) (g := (mkF m 121 #[.val (.int p0), .val (.int p1), .val (.int zm), .val (.int (2013 : Int32)), .unset] [(.int (2013 : Int32))])) rfl (by rw [hml]; rfl) (argsL := [(.int (2013 : Int32))]) (rest := []) (lenOf pd3 rfl) rfl (by show 2 * 0 + _ ≤ _; exact Nat.le_of_eq rfl) (hb hby at_121) (fun _ _ => ⟨rfl, e0, (by decide : 0 + 2 ≤ _), (by decide : 0 + 48 ≤ _)⟩)
                  dsimp only [Pt.U, Pt.locs, Pt.cells, Pt.slots] at X130 l130 y130 z130 st130 hQ130 hS130 hgr130
                  subst l130 y130 z130
                  have hM130 := hS130
                  obtain ⟨X130, hS, hZ, hown⟩ := rebS hS (by rw [e0]; exact (Nat.le_refl _) : _ ≤ s₁.heap.size) X130 hM130 hgr130 hZ hown
                  obtain ⟨rfl, N130q, K130⟩ := hQ130
                  have N130 := Fr.app N0 N130q
                  have KK130 : Keep h0 T130.heap [] := Keep.trans (Keep.refl h0 []) K130 all0
                  refine own_goW (T' := T130) (f' := (mkF m 135 #[.val (.int p0), .val (.int p1), .val (.int zm), .val (.int (2013 : Int32)), .val (.ref wM)] [(.int (2013 : Int32))])) (fun _ k => st130.trans (XS.astore X130.here hx rfl (hb hby at_124) rfl rfl (l' := #[.val (.int p0), .val (.int p1), .val (.int zm), .val (.int (2013 : Int32)), .val (.ref wM)]) rfl (XS.goto X130.here hx rfl (pc0 := 126) (pc' := 134) rfl (hb hby at_126) (by decide) (by decide) (XS.iloadN X130.here hx rfl (hb hby at_134) rfl k)))) ?_
                  obtain ⟨_, _, ⟨T131, L131, k131, n131⟩, -, X131, ⟨Lc131, hQ131, l131, y131, z131⟩, st131⟩ := Jvm.LawKit.callS X130 hx (y := mn5) hown (mvT hZ (ow4 hw)) (mvT hZ (ow5 hw)) (mvT hZ (ow2 hw)) (mvT hZ (ow6 hw)) (by decide) (backOf (W := 0) (rm1M l Z a0 hw [] (2013 : Int32) wN wT wM wB wY wO T130.heap n0 (Nat.le_trans Z0 K130.1) (own_sta_keep S_N K130 own_ws0) (own_sta_keep S_T K130 own_ws0) (own_sta_keep S_M K130 own_ws0) (own_sta_keep S_B K130 own_ws0) (own_sta_keep S_Y K130 own_ws0) (own_sta_keep S_O K130 own_ws0) (by decide +kernel)) hZ (ow6 hw) (ow2 hw) (by decide) (by decide)) (g := (mkF m 135 #[.val (.int p0), .val (.int p1), .val (.int zm), .val (.int (2013 : Int32)), .val (.ref wM)] [(.int (2013 : Int32))])) rfl (by rw [hml]; rfl) (argsL := [(.int (2013 : Int32))]) (rest := []) (lenOf pd3 rfl) rfl (by show 2 * 0 + _ ≤ _; exact Nat.le_of_eq rfl) (hb hby at_135) (fun _ _ => ⟨rfl, rfl, (by decide : 2 + 0 ≤ _), (by decide : 48 + 0 ≤ _)⟩)
                  dsimp only [Pt.U, Pt.locs, Pt.cells, Pt.slots] at X131 l131 y131 z131 st131 hQ131
                  subst l131 y131 z131
                  obtain ⟨rfl, N131q, hh131⟩ := hQ131
                  have N131 := Fr.app N130 N131q
                  refine own_goW (T' := T131) (f' := (mkF m 148 #[.val (.int p0), .val (.int p1), .val (.int zm), .val (.int (2013 : Int32)), .val (.ref wM)] [(.int (1 : Int32))])) (fun _ k => st131 _ (XS.aload X131.here hx rfl (hb hby at_138) rfl rfl (Jvm.RoadKit.acmp (g := (mkF m 140 #[.val (.int p0), .val (.int p1), .val (.int zm), .val (.int (2013 : Int32)), .val (.ref wM)] [(.ref wM), (.ref wM)])) X131 hx rfl rfl rfl (pc0 := 140) (pc' := 143) (same := true) rfl (hb hby at_140) rfl (decide_eq_true rfl) (by decide) (by decide) (XS.iconst X131.here hx rfl (hb hby at_143) (XS.goto X131.here hx rfl (pc0 := 144) (pc' := 148) rfl (hb hby at_144) (by decide) (by decide) k))))) ?_
                  refine own_retW X131 hS (by rw [hh131]; exact (Nat.le_refl _)) (v := some (.int (1 : Int32))) (fun h => by rw [Bd.returns] at h; cases h) Bd.notSynchronized (fun fs hr => retN X131 hx (t := .boolean) Bd.returns (by simp) (hb hby at_148) hr) ?_ (by decide) (by decide)
                  show Q0 Z B p0 p1 cs fm wN wT wM wB wY wO h0 n0 _ T131.heap T131.vm _
                  exact ⟨rfl, N131⟩
                · refine own_goW (T' := s₁) (f' := (mkF m 121 #[.val (.int p0), .val (.int p1), .val (.int zm), .val (.int (2014 : Int32)), .unset] [(.int (2014 : Int32))])) (fun _ k => XS.iloadN X0.here hx rfl (hb hby at_120) rfl k) ?_
                  obtain ⟨_, _, ⟨T132, L132, k132, n132⟩, -, X132, hS132, hgr132, ⟨Lc132, hQ132, l132, y132, z132⟩, st132⟩ := callSS X0 hx (y := mn8) hown (mvT hZ (ow57 hw)) (mvT hZ (ow58 hw)) (mvT hZ (ow10 hw)) (mvT hZ (ow59 hw)) (by decide) (own_backS (W := 0) (rm9M l Z a0 hw [] (s.setVm s.vm) (2014 : Int32) cs fm wN wT wM wB wY wO h0 n0 Z0 S_cs hcs S_fm hfm S_N S_T S_M S_B S_Y S_O I1 (fun _ _ q => by rw [hZh]; exact q) hcw hh21 (by decide) (by decide) (by decide +kernel)) hZ (ow59 hw) (ow10 hw) (by decide) (by decide)) (g := (mkF m 121 #[.val (.int p0), .val (.int p1), .val (.int zm), .val (.int (2014 : Int32)), .unset] [(.int (2014 : Int32))])) rfl (by rw [hml]; rfl) (argsL := [(.int (2014 : Int32))]) (rest := []) (lenOf pd3 rfl) rfl (by show 2 * 0 + _ ≤ _; exact Nat.le_of_eq rfl) (hb hby at_121) (fun _ _ => ⟨rfl, e0, (by decide : 0 + 2 ≤ _), (by decide : 0 + 48 ≤ _)⟩)
                  dsimp only [Pt.U, Pt.locs, Pt.cells, Pt.slots] at X132 l132 y132 z132 st132 hQ132 hS132 hgr132
                  subst l132 y132 z132
                  have hM132 := hS132
                  obtain ⟨X132, hS, hZ, hown⟩ := rebS hS (by rw [e0]; exact (Nat.le_refl _) : _ ≤ s₁.heap.size) X132 hM132 hgr132 hZ hown
                  obtain ⟨rfl, N132q, K132⟩ := hQ132
                  have N132 := Fr.app N0 N132q
                  have KK132 : Keep h0 T132.heap [] := Keep.trans (Keep.refl h0 []) K132 all0
                  refine own_goW (T' := T132) (f' := (mkF m 135 #[.val (.int p0), .val (.int p1), .val (.int zm), .val (.int (2014 : Int32)), .val (.ref wM)] [(.int (2014 : Int32))])) (fun _ k => st132.trans (XS.astore X132.here hx rfl (hb hby at_124) rfl rfl (l' := #[.val (.int p0), .val (.int p1), .val (.int zm), .val (.int (2014 : Int32)), .val (.ref wM)]) rfl (XS.goto X132.here hx rfl (pc0 := 126) (pc' := 134) rfl (hb hby at_126) (by decide) (by decide) (XS.iloadN X132.here hx rfl (hb hby at_134) rfl k)))) ?_
                  obtain ⟨_, _, ⟨T133, L133, k133, n133⟩, -, X133, ⟨Lc133, hQ133, l133, y133, z133⟩, st133⟩ := Jvm.LawKit.callS X132 hx (y := mn5) hown (mvT hZ (ow4 hw)) (mvT hZ (ow5 hw)) (mvT hZ (ow2 hw)) (mvT hZ (ow6 hw)) (by decide) (backOf (W := 0) (rm1M l Z a0 hw [] (2014 : Int32) wN wT wM wB wY wO T132.heap n0 (Nat.le_trans Z0 K132.1) (own_sta_keep S_N K132 own_ws0) (own_sta_keep S_T K132 own_ws0) (own_sta_keep S_M K132 own_ws0) (own_sta_keep S_B K132 own_ws0) (own_sta_keep S_Y K132 own_ws0) (own_sta_keep S_O K132 own_ws0) (by decide +kernel)) hZ (ow6 hw) (ow2 hw) (by decide) (by decide)) (g := (mkF m 135 #[.val (.int p0), .val (.int p1), .val (.int zm), .val (.int (2014 : Int32)), .val (.ref wM)] [(.int (2014 : Int32))])) rfl (by rw [hml]; rfl) (argsL := [(.int (2014 : Int32))]) (rest := []) (lenOf pd3 rfl) rfl (by show 2 * 0 + _ ≤ _; exact Nat.le_of_eq rfl) (hb hby at_135) (fun _ _ => ⟨rfl, rfl, (by decide : 2 + 0 ≤ _), (by decide : 48 + 0 ≤ _)⟩)
                  dsimp only [Pt.U, Pt.locs, Pt.cells, Pt.slots] at X133 l133 y133 z133 st133 hQ133
                  subst l133 y133 z133
                  obtain ⟨rfl, N133q, hh133⟩ := hQ133
                  have N133 := Fr.app N132 N133q
                  refine own_goW (T' := T133) (f' := (mkF m 148 #[.val (.int p0), .val (.int p1), .val (.int zm), .val (.int (2014 : Int32)), .val (.ref wM)] [(.int (1 : Int32))])) (fun _ k => st133 _ (XS.aload X133.here hx rfl (hb hby at_138) rfl rfl (Jvm.RoadKit.acmp (g := (mkF m 140 #[.val (.int p0), .val (.int p1), .val (.int zm), .val (.int (2014 : Int32)), .val (.ref wM)] [(.ref wM), (.ref wM)])) X133 hx rfl rfl rfl (pc0 := 140) (pc' := 143) (same := true) rfl (hb hby at_140) rfl (decide_eq_true rfl) (by decide) (by decide) (XS.iconst X133.here hx rfl (hb hby at_143) (XS.goto X133.here hx rfl (pc0 := 144) (pc' := 148) rfl (hb hby at_144) (by decide) (by decide) k))))) ?_
                  refine own_retW X133 hS (by rw [hh133]; exact (Nat.le_refl _)) (v := some (.int (1 : Int32))) (fun h => by rw [Bd.returns] at h; cases h) Bd.notSynchronized (fun fs hr => retN X133 hx (t := .boolean) Bd.returns (by simp) (hb hby at_148) hr) ?_ (by decide) (by decide)
                  show Q0 Z B p0 p1 cs fm wN wT wM wB wY wO h0 n0 _ T133.heap T133.vm _
                  exact ⟨rfl, N133⟩
          · refine own_goW (T' := s₁) (f' := (mkF m 98 #[.val (.int p0), .val (.int p1), .val (.int zm), .val (.int zv), .unset] [])) (fun _ k => XS.icmpNo X0.here hx rfl (hb hby at_95) rfl (flt hc103).2.2.1 k) ?_
            rcases own_r2 hc72 hc103 with rfl | rfl | rfl
            · obtain ⟨T134, X134, e134, st134⟩ := getS2 X0 hx hZ hown (host := "") (Or.inl (ow51 hw)) Via.refl e0 S_M (g := (mkF m 98 #[.val (.int p0), .val (.int p1), .val (.int zm), .val (.int (91 : Int32)), .unset] [])) rfl (hb hby at_98)
              refine own_goW (T' := T134) (f' := (mkF m 135 #[.val (.int p0), .val (.int p1), .val (.int zm), .val (.int (91 : Int32)), .val (.ref wM)] [(.int (91 : Int32))])) (fun _ k => st134 _ (XS.astore X134.here hx rfl (hb hby at_101) rfl rfl (l' := #[.val (.int p0), .val (.int p1), .val (.int zm), .val (.int (91 : Int32)), .val (.ref wM)]) rfl (XS.goto X134.here hx rfl (pc0 := 103) (pc' := 134) rfl (hb hby at_103) (by decide) (by decide) (XS.iloadN X134.here hx rfl (hb hby at_134) rfl k)))) ?_
              obtain ⟨_, _, ⟨T135, L135, k135, n135⟩, -, X135, ⟨Lc135, hQ135, l135, y135, z135⟩, st135⟩ := Jvm.LawKit.callS X134 hx (y := mn5) hown (mvT hZ (ow4 hw)) (mvT hZ (ow5 hw)) (mvT hZ (ow2 hw)) (mvT hZ (ow6 hw)) (by decide) (backOf (W := 0) (rm1M l Z a0 hw [] (91 : Int32) wN wT wM wB wY wO h0 n0 Z0 S_N S_T S_M S_B S_Y S_O (by decide +kernel)) hZ (ow6 hw) (ow2 hw) (by decide) (by decide)) (g := (mkF m 135 #[.val (.int p0), .val (.int p1), .val (.int zm), .val (.int (91 : Int32)), .val (.ref wM)] [(.int (91 : Int32))])) rfl (by rw [hml]; rfl) (argsL := [(.int (91 : Int32))]) (rest := []) (lenOf pd3 rfl) rfl (by show 2 * 0 + _ ≤ _; exact Nat.le_of_eq rfl) (hb hby at_135) (fun _ _ => ⟨rfl, e134, (by decide : 0 + 0 ≤ _), (by decide : 0 + 0 ≤ _)⟩)
              dsimp only [Pt.U, Pt.locs, Pt.cells, Pt.slots] at X135 l135 y135 z135 st135 hQ135
              subst l135 y135 z135
              obtain ⟨rfl, N135q, hh135⟩ := hQ135
              have N135 := Fr.app N0 N135q
              refine own_goW (T' := T135) (f' := (mkF m 148 #[.val (.int p0), .val (.int p1), .val (.int zm), .val (.int (91 : Int32)), .val (.ref wM)] [(.int (1 : Int32))])) (fun _ k => st135 _ (XS.aload X135.here hx rfl (hb hby at_138) rfl rfl (Jvm.RoadKit.acmp (g := (mkF m 140 #[.val (.int p0), .val (.int p1), .val (.int zm), .val (.int (91 : Int32)), .val (.ref wM)] [(.ref wM), (.ref wM)])) X135 hx rfl rfl rfl (pc0 := 140) (pc' := 143) (same := true) rfl (hb hby at_140) rfl (decide_eq_true rfl) (by decide) (by decide) (XS.iconst X135.here hx rfl (hb hby at_143) (XS.goto X135.here hx rfl (pc0 := 144) (pc' := 148) rfl (hb hby at_144) (by decide) (by decide) k))))) ?_
              refine own_retW X135 hS (by rw [hh135]; exact (Nat.le_refl _)) (v := some (.int (1 : Int32))) (fun h => by rw [Bd.returns] at h; cases h) Bd.notSynchronized (fun fs hr => retN X135 hx (t := .boolean) Bd.returns (by simp) (hb hby at_148) hr) ?_ (by decide) (by decide)
              show Q0 Z B p0 p1 cs fm wN wT wM wB wY wO h0 n0 _ T135.heap T135.vm _
              exact ⟨rfl, N135⟩
            · obtain ⟨T136, X136, e136, st136⟩ := getS2 X0 hx hZ hown (host := "") (Or.inl (ow51 hw)) Via.refl e0 S_M (g := (mkF m 98 #[.val (.int p0), .val (.int p1), .val (.int zm), .val (.int (92 : Int32)), .unset] [])) rfl (hb hby at_98)
              refine own_goW (T' := T136) (f' := (mkF m 135 #[.val (.int p0), .val (.int p1), .val (.int zm), .val (.int (92 : Int32)), .val (.ref wM)] [(.int (92 : Int32))])) (fun _ k => st136 _ (XS.astore X136.here hx rfl (hb hby at_101) rfl rfl (l' := #[.val (.int p0), .val (.int p1), .val (.int zm), .val (.int (92 : Int32)), .val (.ref wM)]) rfl (XS.goto X136.here hx rfl (pc0 := 103) (pc' := 134) rfl (hb hby at_103) (by decide) (by decide) (XS.iloadN X136.here hx rfl (hb hby at_134) rfl k)))) ?_
              obtain ⟨_, _, ⟨T137, L137, k137, n137⟩, -, X137, ⟨Lc137, hQ137, l137, y137, z137⟩, st137⟩ := Jvm.LawKit.callS X136 hx (y := mn5) hown (mvT hZ (ow4 hw)) (mvT hZ (ow5 hw)) (mvT hZ (ow2 hw)) (mvT hZ (ow6 hw)) (by decide) (backOf (W := 0) (rm1M l Z a0 hw [] (92 : Int32) wN wT wM wB wY wO h0 n0 Z0 S_N S_T S_M S_B S_Y S_O (by decide +kernel)) hZ (ow6 hw) (ow2 hw) (by decide) (by decide)) (g := (mkF m 135 #[.val (.int p0), .val (.int p1), .val (.int zm), .val (.int (92 : Int32)), .val (.ref wM)] [(.int (92 : Int32))])) rfl (by rw [hml]; rfl) (argsL := [(.int (92 : Int32))]) (rest := []) (lenOf pd3 rfl) rfl (by show 2 * 0 + _ ≤ _; exact Nat.le_of_eq rfl) (hb hby at_135) (fun _ _ => ⟨rfl, e136, (by decide : 0 + 0 ≤ _), (by decide : 0 + 0 ≤ _)⟩)
              dsimp only [Pt.U, Pt.locs, Pt.cells, Pt.slots] at X137 l137 y137 z137 st137 hQ137
              subst l137 y137 z137
              obtain ⟨rfl, N137q, hh137⟩ := hQ137
              have N137 := Fr.app N0 N137q
              refine own_goW (T' := T137) (f' := (mkF m 148 #[.val (.int p0), .val (.int p1), .val (.int zm), .val (.int (92 : Int32)), .val (.ref wM)] [(.int (1 : Int32))])) (fun _ k => st137 _ (XS.aload X137.here hx rfl (hb hby at_138) rfl rfl (Jvm.RoadKit.acmp (g := (mkF m 140 #[.val (.int p0), .val (.int p1), .val (.int zm), .val (.int (92 : Int32)), .val (.ref wM)] [(.ref wM), (.ref wM)])) X137 hx rfl rfl rfl (pc0 := 140) (pc' := 143) (same := true) rfl (hb hby at_140) rfl (decide_eq_true rfl) (by decide) (by decide) (XS.iconst X137.here hx rfl (hb hby at_143) (XS.goto X137.here hx rfl (pc0 := 144) (pc' := 148) rfl (hb hby at_144) (by decide) (by decide) k))))) ?_
              refine own_retW X137 hS (by rw [hh137]; exact (Nat.le_refl _)) (v := some (.int (1 : Int32))) (fun h => by rw [Bd.returns] at h; cases h) Bd.notSynchronized (fun fs hr => retN X137 hx (t := .boolean) Bd.returns (by simp) (hb hby at_148) hr) ?_ (by decide) (by decide)
              show Q0 Z B p0 p1 cs fm wN wT wM wB wY wO h0 n0 _ T137.heap T137.vm _
              exact ⟨rfl, N137⟩
            · obtain ⟨T138, X138, e138, st138⟩ := getS2 X0 hx hZ hown (host := "") (Or.inl (ow51 hw)) Via.refl e0 S_M (g := (mkF m 98 #[.val (.int p0), .val (.int p1), .val (.int zm), .val (.int (93 : Int32)), .unset] [])) rfl (hb hby at_98)
              refine own_goW (T' := T138) (f' := (mkF m 135 #[.val (.int p0), .val (.int p1), .val (.int zm), .val (.int (93 : Int32)), .val (.ref wM)] [(.int (93 : Int32))])) (fun _ k => st138 _ (XS.astore X138.here hx rfl (hb hby at_101) rfl rfl (l' := #[.val (.int p0), .val (.int p1), .val (.int zm), .val (.int (93 : Int32)), .val (.ref wM)]) rfl (XS.goto X138.here hx rfl (pc0 := 103) (pc' := 134) rfl (hb hby at_103) (by decide) (by decide) (XS.iloadN X138.here hx rfl (hb hby at_134) rfl k)))) ?_
              obtain ⟨_, _, ⟨T139, L139, k139, n139⟩, -, X139, ⟨Lc139, hQ139, l139, y139, z139⟩, st139⟩ := Jvm.LawKit.callS X138 hx (y := mn5) hown (mvT hZ (ow4 hw)) (mvT hZ (ow5 hw)) (mvT hZ (ow2 hw)) (mvT hZ (ow6 hw)) (by decide) (backOf (W := 0) (rm1M l Z a0 hw [] (93 : Int32) wN wT wM wB wY wO h0 n0 Z0 S_N S_T S_M S_B S_Y S_O (by decide +kernel)) hZ (ow6 hw) (ow2 hw) (by decide) (by decide)) (g := (mkF m 135 #[.val (.int p0), .val (.int p1), .val (.int zm), .val (.int (93 : Int32)), .val (.ref wM)] [(.int (93 : Int32))])) rfl (by rw [hml]; rfl) (argsL := [(.int (93 : Int32))]) (rest := []) (lenOf pd3 rfl) rfl (by show 2 * 0 + _ ≤ _; exact Nat.le_of_eq rfl) (hb hby at_135) (fun _ _ => ⟨rfl, e138, (by decide : 0 + 0 ≤ _), (by decide : 0 + 0 ≤ _)⟩)
              dsimp only [Pt.U, Pt.locs, Pt.cells, Pt.slots] at X139 l139 y139 z139 st139 hQ139
              subst l139 y139 z139
              obtain ⟨rfl, N139q, hh139⟩ := hQ139
              have N139 := Fr.app N0 N139q
              refine own_goW (T' := T139) (f' := (mkF m 148 #[.val (.int p0), .val (.int p1), .val (.int zm), .val (.int (93 : Int32)), .val (.ref wM)] [(.int (1 : Int32))])) (fun _ k => st139 _ (XS.aload X139.here hx rfl (hb hby at_138) rfl rfl (Jvm.RoadKit.acmp (g := (mkF m 140 #[.val (.int p0), .val (.int p1), .val (.int zm), .val (.int (93 : Int32)), .val (.ref wM)] [(.ref wM), (.ref wM)])) X139 hx rfl rfl rfl (pc0 := 140) (pc' := 143) (same := true) rfl (hb hby at_140) rfl (decide_eq_true rfl) (by decide) (by decide) (XS.iconst X139.here hx rfl (hb hby at_143) (XS.goto X139.here hx rfl (pc0 := 144) (pc' := 148) rfl (hb hby at_144) (by decide) (by decide) k))))) ?_
              refine own_retW X139 hS (by rw [hh139]; exact (Nat.le_refl _)) (v := some (.int (1 : Int32))) (fun h => by rw [Bd.returns] at h; cases h) Bd.notSynchronized (fun fs hr => retN X139 hx (t := .boolean) Bd.returns (by simp) (hb hby at_148) hr) ?_ (by decide) (by decide)
              show Q0 Z B p0 p1 cs fm wN wT wM wB wY wO h0 n0 _ T139.heap T139.vm _
              exact ⟨rfl, N139⟩
      · refine own_goW (T' := s₁) (f' := (mkF m 77 #[.val (.int p0), .val (.int p1), .val (.int zm), .val (.int zv), .unset] [])) (fun _ k => XS.icmpNo X0.here hx rfl (hb hby at_74) rfl (flt hc71).2.2.1 k) ?_
        rcases own_r1 hc2 hc71 with rfl | rfl | rfl | rfl | rfl | rfl | rfl | rfl | rfl | rfl | rfl | rfl | rfl | rfl | rfl | rfl | rfl | rfl | rfl | rfl | rfl | rfl | rfl | rfl | rfl | rfl | rfl | rfl | rfl | rfl | rfl | rfl | rfl
        · refine own_goW (T' := s₁) (f' := (mkF m 78 #[.val (.int p0), .val (.int p1), .val (.int zm), .val (.int (-16 : Int32)), .unset] [(.int (-16 : Int32))])) (fun _ k => XS.iloadN X0.here hx rfl (hb hby at_77) rfl k) ?_
          obtain ⟨_, _, ⟨T140, L140, k140, n140⟩, -, X140, hS140, hgr140, ⟨Lc140, hQ140, l140, y140, z140⟩, st140⟩ := callSS X0 hx (y := mn7) hown (mvT hZ (ow8 hw)) (mvT hZ (ow9 hw)) (mvT hZ (ow10 hw)) (mvT hZ (ow11 hw)) (by decide) (own_backS (W := 0) (rm2T l Z a0 hw [] (s.setVm s.vm) (-16 : Int32) cs fm wN wT wM wB wY wO h0 n0 Z0 S_cs hcs S_fm hfm S_N S_T S_M S_B S_Y S_O I1 (fun _ _ q => by rw [hZh]; exact q) hcw hh7 (by decide) (by decide) (by decide +kernel)) hZ (ow11 hw) (ow10 hw) (by decide) (by decide)) (g := (mkF m 78 #[.val (.int p0), .val (.int p1), .val (.int zm), .val (.int (-16 : Int32)), .unset] [(.int (-16 : Int32))])) rfl (by rw [hml]; rfl) (argsL := [(.int (-16 : Int32))]) (rest := []) (lenOf pd3 rfl) rfl (by show 2 * 0 + _ ≤ _; exact Nat.le_of_eq rfl) (hb hby at_78) (fun _ _ => ⟨rfl, e0, (by decide : 0 + 2 ≤ _), (by decide : 0 + 136 ≤ _)⟩)
          dsimp only [Pt.U, Pt.locs, Pt.cells, Pt.slots] at X140 l140 y140 z140 st140 hQ140 hS140 hgr140
          subst l140 y140 z140
          have hM140 := hS140
          obtain ⟨X140, hS, hZ, hown⟩ := rebS hS (by rw [e0]; exact (Nat.le_refl _) : _ ≤ s₁.heap.size) X140 hM140 hgr140 hZ hown
          obtain ⟨rfl, N140q, K140⟩ := hQ140
          have N140 := Fr.app N0 N140q
          have KK140 : Keep h0 T140.heap [] := Keep.trans (Keep.refl h0 []) K140 all0
          refine own_goW (T' := T140) (f' := (mkF m 135 #[.val (.int p0), .val (.int p1), .val (.int zm), .val (.int (-16 : Int32)), .val (.ref wT)] [(.int (-16 : Int32))])) (fun _ k => st140.trans (XS.astore X140.here hx rfl (hb hby at_81) rfl rfl (l' := #[.val (.int p0), .val (.int p1), .val (.int zm), .val (.int (-16 : Int32)), .val (.ref wT)]) rfl (XS.goto X140.here hx rfl (pc0 := 83) (pc' := 134) rfl (hb hby at_83) (by decide) (by decide) (XS.iloadN X140.here hx rfl (hb hby at_134) rfl k)))) ?_
          obtain ⟨_, _, ⟨T141, L141, k141, n141⟩, -, X141, ⟨Lc141, hQ141, l141, y141, z141⟩, st141⟩ := Jvm.LawKit.callS X140 hx (y := mn5) hown (mvT hZ (ow4 hw)) (mvT hZ (ow5 hw)) (mvT hZ (ow2 hw)) (mvT hZ (ow6 hw)) (by decide) (backOf (W := 0) (rm1T l Z a0 hw [] (-16 : Int32) wN wT wM wB wY wO T140.heap n0 (Nat.le_trans Z0 K140.1) (own_sta_keep S_N K140 own_ws0) (own_sta_keep S_T K140 own_ws0) (own_sta_keep S_M K140 own_ws0) (own_sta_keep S_B K140 own_ws0) (own_sta_keep S_Y K140 own_ws0) (own_sta_keep S_O K140 own_ws0) (by decide +kernel)) hZ (ow6 hw) (ow2 hw) (by decide) (by decide)) (g := (mkF m 135 #[.val (.int p0), .val (.int p1), .val (.int zm), .val (.int (-16 : Int32)), .val (.ref wT)] [(.int (-16 : Int32))])) rfl (by rw [hml]; rfl) (argsL := [(.int (-16 : Int32))]) (rest := []) (lenOf pd3 rfl) rfl (by show 2 * 0 + _ ≤ _; exact Nat.le_of_eq rfl) (hb hby at_135) (fun _ _ => ⟨rfl, rfl, (by decide : 2 + 0 ≤ _), (by decide : 136 + 0 ≤ _)⟩)
          dsimp only [Pt.U, Pt.locs, Pt.cells, Pt.slots] at X141 l141 y141 z141 st141 hQ141
          subst l141 y141 z141
          obtain ⟨rfl, N141q, hh141⟩ := hQ141
          have N141 := Fr.app N140 N141q
          refine own_goW (T' := T141) (f' := (mkF m 148 #[.val (.int p0), .val (.int p1), .val (.int zm), .val (.int (-16 : Int32)), .val (.ref wT)] [(.int (1 : Int32))])) (fun _ k => st141 _ (XS.aload X141.here hx rfl (hb hby at_138) rfl rfl (Jvm.RoadKit.acmp (g := (mkF m 140 #[.val (.int p0), .val (.int p1), .val (.int zm), .val (.int (-16 : Int32)), .val (.ref wT)] [(.ref wT), (.ref wT)])) X141 hx rfl rfl rfl (pc0 := 140) (pc' := 143) (same := true) rfl (hb hby at_140) rfl (decide_eq_true rfl) (by decide) (by decide) (XS.iconst X141.here hx rfl (hb hby at_143) (XS.goto X141.here hx rfl (pc0 := 144) (pc' := 148) rfl (hb hby at_144) (by decide) (by decide) k))))) ?_
          refine own_retW X141 hS (by rw [hh141]; exact (Nat.le_refl _)) (v := some (.int (1 : Int32))) (fun h => by rw [Bd.returns] at h; cases h) Bd.notSynchronized (fun fs hr => retN X141 hx (t := .boolean) Bd.returns (by simp) (hb hby at_148) hr) ?_ (by decide) (by decide)
          show Q0 Z B p0 p1 cs fm wN wT wM wB wY wO h0 n0 _ T141.heap T141.vm _
          exact ⟨rfl, N141⟩
        · refine own_goW (T' := s₁) (f' := (mkF m 78 #[.val (.int p0), .val (.int p1), .val (.int zm), .val (.int (-15 : Int32)), .unset] [(.int (-15 : Int32))])) (fun _ k => XS.iloadN X0.here hx rfl (hb hby at_77) rfl k) ?_
          obtain ⟨_, _, ⟨T142, L142, k142, n142⟩, -, X142, hS142, hgr142, ⟨Lc142, hQ142, l142, y142, z142⟩, st142⟩ := callSS X0 hx (y := mn7) hown (mvT hZ (ow8 hw)) (mvT hZ (ow9 hw)) (mvT hZ (ow10 hw)) (mvT hZ (ow11 hw)) (by decide) (own_backS (W := 0) (rm2T l Z a0 hw [] (s.setVm s.vm) (-15 : Int32) cs fm wN wT wM wB wY wO h0 n0 Z0 S_cs hcs S_fm hfm S_N S_T S_M S_B S_Y S_O I1 (fun _ _ q => by rw [hZh]; exact q) hcw hh7 (by decide) (by decide) (by decide +kernel)) hZ (ow11 hw) (ow10 hw) (by decide) (by decide)) (g := (mkF m 78 #[.val (.int p0), .val (.int p1), .val (.int zm), .val (.int (-15 : Int32)), .unset] [(.int (-15 : Int32))])) rfl (by rw [hml]; rfl) (argsL := [(.int (-15 : Int32))]) (rest := []) (lenOf pd3 rfl) rfl (by show 2 * 0 + _ ≤ _; exact Nat.le_of_eq rfl) (hb hby at_78) (fun _ _ => ⟨rfl, e0, (by decide : 0 + 2 ≤ _), (by decide : 0 + 136 ≤ _)⟩)
          dsimp only [Pt.U, Pt.locs, Pt.cells, Pt.slots] at X142 l142 y142 z142 st142 hQ142 hS142 hgr142
          subst l142 y142 z142
          have hM142 := hS142
          obtain ⟨X142, hS, hZ, hown⟩ := rebS hS (by rw [e0]; exact (Nat.le_refl _) : _ ≤ s₁.heap.size) X142 hM142 hgr142 hZ hown
          obtain ⟨rfl, N142q, K142⟩ := hQ142
          have N142 := Fr.app N0 N142q
          have KK142 : Keep h0 T142.heap [] := Keep.trans (Keep.refl h0 []) K142 all0
          refine own_goW (T' := T142) (f' := (mkF m 135 #[.val (.int p0), .val (.int p1), .val (.int zm), .val (.int (-15 : Int32)), .val (.ref wT)] [(.int (-15 : Int32))])) (fun _ k => st142.trans (XS.astore X142.here hx rfl (hb hby at_81) rfl rfl (l' := #[.val (.int p0), .val (.int p1), .val (.int zm), .val (.int (-15 : Int32)), .val (.ref wT)]) rfl (XS.goto X142.here hx rfl (pc0 := 83) (pc' := 134) rfl (hb hby at_83) (by decide) (by decide) (XS.iloadN X142.here hx rfl (hb hby at_134) rfl k)))) ?_
          obtain ⟨_, _, ⟨T143, L143, k143, n143⟩, -, X143, ⟨Lc143, hQ143, l143, y143, z143⟩, st143⟩ := Jvm.LawKit.callS X142 hx (y := mn5) hown (mvT hZ (ow4 hw)) (mvT hZ (ow5 hw)) (mvT hZ (ow2 hw)) (mvT hZ (ow6 hw)) (by decide) (backOf (W := 0) (rm1T l Z a0 hw [] (-15 : Int32) wN wT wM wB wY wO T142.heap n0 (Nat.le_trans Z0 K142.1) (own_sta_keep S_N K142 own_ws0) (own_sta_keep S_T K142 own_ws0) (own_sta_keep S_M K142 own_ws0) (own_sta_keep S_B K142 own_ws0) (own_sta_keep S_Y K142 own_ws0) (own_sta_keep S_O K142 own_ws0) (by decide +kernel)) hZ (ow6 hw) (ow2 hw) (by decide) (by decide)) (g := (mkF m 135 #[.val (.int p0), .val (.int p1), .val (.int zm), .val (.int (-15 : Int32)), .val (.ref wT)] [(.int (-15 : Int32))])) rfl (by rw [hml]; rfl) (argsL := [(.int (-15 : Int32))]) (rest := []) (lenOf pd3 rfl) rfl (by show 2 * 0 + _ ≤ _; exact Nat.le_of_eq rfl) (hb hby at_135) (fun _ _ => ⟨rfl, rfl, (by decide : 2 + 0 ≤ _), (by decide : 136 + 0 ≤ _)⟩)
          dsimp only [Pt.U, Pt.locs, Pt.cells, Pt.slots] at X143 l143 y143 z143 st143 hQ143
          subst l143 y143 z143
          obtain ⟨rfl, N143q, hh143⟩ := hQ143
          have N143 := Fr.app N142 N143q
          refine own_goW (T' := T143) (f' := (mkF m 148 #[.val (.int p0), .val (.int p1), .val (.int zm), .val (.int (-15 : Int32)), .val (.ref wT)] [(.int (1 : Int32))])) (fun _ k => st143 _ (XS.aload X143.here hx rfl (hb hby at_138) rfl rfl (Jvm.RoadKit.acmp (g := (mkF m 140 #[.val (.int p0), .val (.int p1), .val (.int zm), .val (.int (-15 : Int32)), .val (.ref wT)] [(.ref wT), (.ref wT)])) X143 hx rfl rfl rfl (pc0 := 140) (pc' := 143) (same := true) rfl (hb hby at_140) rfl (decide_eq_true rfl) (by decide) (by decide) (XS.iconst X143.here hx rfl (hb hby at_143) (XS.goto X143.here hx rfl (pc0 := 144) (pc' := 148) rfl (hb hby at_144) (by decide) (by decide) k))))) ?_
          refine own_retW X143 hS (by rw [hh143]; exact (Nat.le_refl _)) (v := some (.int (1 : Int32))) (fun h => by rw [Bd.returns] at h; cases h) Bd.notSynchronized (fun fs hr => retN X143 hx (t := .boolean) Bd.returns (by simp) (hb hby at_148) hr) ?_ (by decide) (by decide)
          show Q0 Z B p0 p1 cs fm wN wT wM wB wY wO h0 n0 _ T143.heap T143.vm _
          exact ⟨rfl, N143⟩
        · refine own_goW (T' := s₁) (f' := (mkF m 78 #[.val (.int p0), .val (.int p1), .val (.int zm), .val (.int (-14 : Int32)), .unset] [(.int (-14 : Int32))])) (fun _ k => XS.iloadN X0.here hx rfl (hb hby at_77) rfl k) ?_
          obtain ⟨_, _, ⟨T144, L144, k144, n144⟩, -, X144, hS144, hgr144, ⟨Lc144, hQ144, l144, y144, z144⟩, st144⟩ := callSS X0 hx (y := mn7) hown (mvT hZ (ow8 hw)) (mvT hZ (ow9 hw)) (mvT hZ (ow10 hw)) (mvT hZ (ow11 hw)) (by decide) (own_backS (W := 0) (rm2O l Z a0 hw [] (s.setVm s.vm) (-14 : Int32) cs fm wN wT wM wB wY wO h0 n0 Z0 S_cs hcs S_fm hfm S_N S_T S_M S_B S_Y S_O I1 (fun _ _ q => by rw [hZh]; exact q) hcw hh7 (by decide) (by decide) (by decide +kernel)) hZ (ow11 hw) (ow10 hw) (by decide) (by decide)) (g := (mkF m 78 #[.val (.int p0), .val (.int p1), .val (.int zm), .val (.int (-14 : Int32)), .unset] [(.int (-14 : Int32))])) rfl (by rw [hml]; rfl) (argsL := [(.int (-14 : Int32))]) (rest := []) (lenOf pd3 rfl) rfl (by show 2 * 0 + _ ≤ _; exact Nat.le_of_eq rfl) (hb hby at_78) (fun _ _ => ⟨rfl, e0, (by decide : 0 + 2 ≤ _), (by decide : 0 + 136 ≤ _)⟩)
          dsimp only [Pt.U, Pt.locs, Pt.cells, Pt.slots] at X144 l144 y144 z144 st144 hQ144 hS144 hgr144
          subst l144 y144 z144
          have hM144 := hS144
          obtain ⟨X144, hS, hZ, hown⟩ := rebS hS (by rw [e0]; exact (Nat.le_refl _) : _ ≤ s₁.heap.size) X144 hM144 hgr144 hZ hown
          obtain ⟨rfl, N144q, K144⟩ := hQ144
          have N144 := Fr.app N0 N144q
          have KK144 : Keep h0 T144.heap [] := Keep.trans (Keep.refl h0 []) K144 all0
          refine own_goW (T' := T144) (f' := (mkF m 135 #[.val (.int p0), .val (.int p1), .val (.int zm), .val (.int (-14 : Int32)), .val (.ref wO)] [(.int (-14 : Int32))])) (fun _ k => st144.trans (XS.astore X144.here hx rfl (hb hby at_81) rfl rfl (l' := #[.val (.int p0), .val (.int p1), .val (.int zm), .val (.int (-14 : Int32)), .val (.ref wO)]) rfl (XS.goto X144.here hx rfl (pc0 := 83) (pc' := 134) rfl (hb hby at_83) (by decide) (by decide) (XS.iloadN X144.here hx rfl (hb hby at_134) rfl k)))) ?_
          obtain ⟨_, _, ⟨T145, L145, k145, n145⟩, -, X145, ⟨Lc145, hQ145, l145, y145, z145⟩, st145⟩ := Jvm.LawKit.callS X144 hx (y := mn5) hown (mvT hZ (ow4 hw)) (mvT hZ (ow5 hw)) (mvT hZ (ow2 hw)) (mvT hZ (ow6 hw)) (by decide) (backOf (W := 0) (rm1O l Z a0 hw [] (-14 : Int32) wN wT wM wB wY wO T144.heap n0 (Nat.le_trans Z0 K144.1) (own_sta_keep S_N K144 own_ws0) (own_sta_keep S_T K144 own_ws0) (own_sta_keep S_M K144 own_ws0) (own_sta_keep S_B K144 own_ws0) (own_sta_keep S_Y K144 own_ws0) (own_sta_keep S_O K144 own_ws0) (by decide +kernel)) hZ (ow6 hw) (ow2 hw) (by decide) (by decide)) (g := (mkF m 135 #[.val (.int p0), .val (.int p1), .val (.int zm), .val (.int (-14 : Int32)), .val (.ref wO)] [(.int (-14 : Int32))])) rfl (by rw [hml]; rfl) (argsL := [(.int (-14 : Int32))]) (rest := []) (lenOf pd3 rfl) rfl (by show 2 * 0 + _ ≤ _; exact Nat.le_of_eq rfl) (hb hby at_135) (fun _ _ => ⟨rfl, rfl, (by decide : 2 + 0 ≤ _), (by decide : 136 + 0 ≤ _)⟩)
          dsimp only [Pt.U, Pt.locs, Pt.cells, Pt.slots] at X145 l145 y145 z145 st145 hQ145
          subst l145 y145 z145
          obtain ⟨rfl, N145q, hh145⟩ := hQ145
          have N145 := Fr.app N144 N145q
          refine own_goW (T' := T145) (f' := (mkF m 148 #[.val (.int p0), .val (.int p1), .val (.int zm), .val (.int (-14 : Int32)), .val (.ref wO)] [(.int (1 : Int32))])) (fun _ k => st145 _ (XS.aload X145.here hx rfl (hb hby at_138) rfl rfl (Jvm.RoadKit.acmp (g := (mkF m 140 #[.val (.int p0), .val (.int p1), .val (.int zm), .val (.int (-14 : Int32)), .val (.ref wO)] [(.ref wO), (.ref wO)])) X145 hx rfl rfl rfl (pc0 := 140) (pc' := 143) (same := true) rfl (hb hby at_140) rfl (decide_eq_true rfl) (by decide) (by decide) (XS.iconst X145.here hx rfl (hb hby at_143) (XS.goto X145.here hx rfl (pc0 := 144) (pc' := 148) rfl (hb hby at_144) (by decide) (by decide) k))))) ?_
          refine own_retW X145 hS (by rw [hh145]; exact (Nat.le_refl _)) (v := some (.int (1 : Int32))) (fun h => by rw [Bd.returns] at h; cases h) Bd.notSynchronized (fun fs hr => retN X145 hx (t := .boolean) Bd.returns (by simp) (hb hby at_148) hr) ?_ (by decide) (by decide)
          show Q0 Z B p0 p1 cs fm wN wT wM wB wY wO h0 n0 _ T145.heap T145.vm _
          exact ⟨rfl, N145⟩
        · refine own_goW (T' := s₁) (f' := (mkF m 78 #[.val (.int p0), .val (.int p1), .val (.int zm), .val (.int (-13 : Int32)), .unset] [(.int (-13 : Int32))])) (fun _ k => XS.iloadN X0.here hx rfl (hb hby at_77) rfl k) ?_
          obtain ⟨_, _, ⟨T146, L146, k146, n146⟩, -, X146, hS146, hgr146, ⟨Lc146, hQ146, l146, y146, z146⟩, st146⟩ := callSS X0 hx (y := mn7) hown (mvT hZ (ow8 hw)) (mvT hZ (ow9 hw)) (mvT hZ (ow10 hw)) (mvT hZ (ow11 hw)) (by decide) (own_backS (W := 0) (rm2O l Z a0 hw [] (s.setVm s.vm) (-13 : Int32) cs fm wN wT wM wB wY wO h0 n0 Z0 S_cs hcs S_fm hfm S_N S_T S_M S_B S_Y S_O I1 (fun _ _ q => by rw [hZh]; exact q) hcw hh7 (by decide) (by decide) (by decide +kernel)) hZ (ow11 hw) (ow10 hw) (by decide) (by decide)) (g := (mkF m 78 #[.val (.int p0), .val (.int p1), .val (.int zm), .val (.int (-13 : Int32)), .unset] [(.int (-13 : Int32))])) rfl (by rw [hml]; rfl) (argsL := [(.int (-13 : Int32))]) (rest := []) (lenOf pd3 rfl) rfl (by show 2 * 0 + _ ≤ _; exact Nat.le_of_eq rfl) (hb hby at_78) (fun _ _ => ⟨rfl, e0, (by decide : 0 + 2 ≤ _), (by decide : 0 + 136 ≤ _)⟩)
          dsimp only [Pt.U, Pt.locs, Pt.cells, Pt.slots] at X146 l146 y146 z146 st146 hQ146 hS146 hgr146
          subst l146 y146 z146
          have hM146 := hS146
          obtain ⟨X146, hS, hZ, hown⟩ := rebS hS (by rw [e0]; exact (Nat.le_refl _) : _ ≤ s₁.heap.size) X146 hM146 hgr146 hZ hown
          obtain ⟨rfl, N146q, K146⟩ := hQ146
          have N146 := Fr.app N0 N146q
          have KK146 : Keep h0 T146.heap [] := Keep.trans (Keep.refl h0 []) K146 all0
          refine own_goW (T' := T146) (f' := (mkF m 135 #[.val (.int p0), .val (.int p1), .val (.int zm), .val (.int (-13 : Int32)), .val (.ref wO)] [(.int (-13 : Int32))])) (fun _ k => st146.trans (XS.astore X146.here hx rfl (hb hby at_81) rfl rfl (l' := #[.val (.int p0), .val (.int p1), .val (.int zm), .val (.int (-13 : Int32)), .val (.ref wO)]) rfl (XS.goto X146.here hx rfl (pc0 := 83) (pc' := 134) rfl (hb hby at_83) (by decide) (by decide) (XS.iloadN X146.here hx rfl (hb hby at_134) rfl k)))) ?_
          obtain ⟨_, _, ⟨T147, L147, k147, n147⟩, -, X147, ⟨Lc147, hQ147, l147, y147, z147⟩, st147⟩ := Jvm.LawKit.callS X146 hx (y := mn5) hown (mvT hZ (ow4 hw)) (mvT hZ (ow5 hw)) (mvT hZ (ow2 hw)) (mvT hZ (ow6 hw)) (by decide) (backOf (W := 0) (rm1O l Z a0 hw [] (-13 : Int32) wN wT wM wB wY wO T146.heap n0 (Nat.le_trans Z0 K146.1) (own_sta_keep S_N K146 own_ws0) (own_sta_keep S_T K146 own_ws0) (own_sta_keep S_M K146 own_ws0) (own_sta_keep S_B K146 own_ws0) (own_sta_keep S_Y K146 own_ws0) (own_sta_keep S_O K146 own_ws0) (by decide +kernel)) hZ (ow6 hw) (ow2 hw) (by decide) (by decide)) (g := (mkF m 135 #[.val (.int p0), .val (.int p1), .val (.int zm), .val (.int (-13 : Int32)), .val (.ref wO)] [(.int (-13 : Int32))])) rfl (by rw [hml]; rfl) (argsL := [(.int (-13 : Int32))]) (rest := []) (lenOf pd3 rfl) rfl (by show 2 * 0 + _ ≤ _; exact Nat.le_of_eq rfl) (hb hby at_135) (fun _ _ => ⟨rfl, rfl, (by decide : 2 + 0 ≤ _), (by decide : 136 + 0 ≤ _)⟩)
          dsimp only [Pt.U, Pt.locs, Pt.cells, Pt.slots] at X147 l147 y147 z147 st147 hQ147
          subst l147 y147 z147
          obtain ⟨rfl, N147q, hh147⟩ := hQ147
          have N147 := Fr.app N146 N147q
          refine own_goW (T' := T147) (f' := (mkF m 148 #[.val (.int p0), .val (.int p1), .val (.int zm), .val (.int (-13 : Int32)), .val (.ref wO)] [(.int (1 : Int32))])) (fun _ k => st147 _ (XS.aload X147.here hx rfl (hb hby at_138) rfl rfl (Jvm.RoadKit.acmp (g := (mkF m 140 #[.val (.int p0), .val (.int p1), .val (.int zm), .val (.int (-13 : Int32)), .val (.ref wO)] [(.ref wO), (.ref wO)])) X147 hx rfl rfl rfl (pc0 := 140) (pc' := 143) (same := true) rfl (hb hby at_140) rfl (decide_eq_true rfl) (by decide) (by decide) (XS.iconst X147.here hx rfl (hb hby at_143) (XS.goto X147.here hx rfl (pc0 := 144) (pc' := 148) rfl (hb hby at_144) (by decide) (by decide) k))))) ?_
          refine own_retW X147 hS (by rw [hh147]; exact (Nat.le_refl _)) (v := some (.int (1 : Int32))) (fun h => by rw [Bd.returns] at h; cases h) Bd.notSynchronized (fun fs hr => retN X147 hx (t := .boolean) Bd.returns (by simp) (hb hby at_148) hr) ?_ (by decide) (by decide)
          show Q0 Z B p0 p1 cs fm wN wT wM wB wY wO h0 n0 _ T147.heap T147.vm _
          exact ⟨rfl, N147⟩
        · refine own_goW (T' := s₁) (f' := (mkF m 78 #[.val (.int p0), .val (.int p1), .val (.int zm), .val (.int (-12 : Int32)), .unset] [(.int (-12 : Int32))])) (fun _ k => XS.iloadN X0.here hx rfl (hb hby at_77) rfl k) ?_
          obtain ⟨_, _, ⟨T148, L148, k148, n148⟩, -, X148, hS148, hgr148, ⟨Lc148, hQ148, l148, y148, z148⟩, st148⟩ := callSS X0 hx (y := mn7) hown (mvT hZ (ow8 hw)) (mvT hZ (ow9 hw)) (mvT hZ (ow10 hw)) (mvT hZ (ow11 hw)) (by decide) (own_backS (W := 0) (rm2O l Z a0 hw [] (s.setVm s.vm) (-12 : Int32) cs fm wN wT wM wB wY wO h0 n0 Z0 S_cs hcs S_fm hfm S_N S_T S_M S_B S_Y S_O I1 (fun _ _ q => by rw [hZh]; exact q) hcw hh7 (by decide) (by decide) (by decide +kernel)) hZ (ow11 hw) (ow10 hw) (by decide) (by decide)) (g := (mkF m 78 #[.val (.int p0), .val (.int p1), .val (.int zm), .val (.int (-12 : Int32)), .unset] [(.int (-12 : Int32))])) rfl (by rw [hml]; rfl) (argsL := [(.int (-12 : Int32))]) (rest := []) (lenOf pd3 rfl) rfl (by show 2 * 0 + _ ≤ _; exact Nat.le_of_eq rfl) (hb hby at_78) (fun _ _ => ⟨rfl, e0, (by decide : 0 + 2 ≤ _), (by decide : 0 + 136 ≤ _)⟩)
          dsimp only [Pt.U, Pt.locs, Pt.cells, Pt.slots] at X148 l148 y148 z148 st148 hQ148 hS148 hgr148
          subst l148 y148 z148
          have hM148 := hS148
          obtain ⟨X148, hS, hZ, hown⟩ := rebS hS (by rw [e0]; exact (Nat.le_refl _) : _ ≤ s₁.heap.size) X148 hM148 hgr148 hZ hown
          obtain ⟨rfl, N148q, K148⟩ := hQ148
          have N148 := Fr.app N0 N148q
          have KK148 : Keep h0 T148.heap [] := Keep.trans (Keep.refl h0 []) K148 all0
          refine own_goW (T' := T148) (f' := (mkF m 135 #[.val (.int p0), .val (.int p1), .val (.int zm), .val (.int (-12 : Int32)), .val (.ref wO)] [(.int (-12 : Int32))])) (fun _ k => st148.trans (XS.astore X148.here hx rfl (hb hby at_81) rfl rfl (l' := #[.val (.int p0), .val (.int p1), .val (.int zm), .val (.int (-12 : Int32)), .val (.ref wO)]) rfl (XS.goto X148.here hx rfl (pc0 := 83) (pc' := 134) rfl (hb hby at_83) (by decide) (by decide) (XS.iloadN X148.here hx rfl (hb hby at_134) rfl k)))) ?_
          obtain ⟨_, _, ⟨T149, L149, k149, n149⟩, -, X149, ⟨Lc149, hQ149, l149, y149, z149⟩, st149⟩ := Jvm.LawKit.callS X148 hx (y := mn5) hown (mvT hZ (ow4 hw)) (mvT hZ (ow5 hw)) (mvT hZ (ow2 hw)) (mvT hZ (ow6 hw)) (by decide) (backOf (W := 0) (rm1O l Z a0 hw [] (-12 : Int32) wN wT wM wB wY wO T148.heap n0 (Nat.le_trans Z0 K148.1) (own_sta_keep S_N K148 own_ws0) (own_sta_keep S_T K148 own_ws0) (own_sta_keep S_M K148 own_ws0) (own_sta_keep S_B K148 own_ws0) (own_sta_keep S_Y K148 own_ws0) (own_sta_keep S_O K148 own_ws0) (by decide +kernel)) hZ (ow6 hw) (ow2 hw) (by decide) (by decide)) (g := (mkF m 135 #[.val (.int p0), .val (.int p1), .val (.int zm), .val (.int (-12 : Int32)), .val (.ref wO)] [(.int (-12 : Int32))])) rfl (by rw [hml]; rfl) (argsL := [(.int (-12 : Int32))]) (rest := []) (lenOf pd3 rfl) rfl (by show 2 * 0 + _ ≤ _; exact Nat.le_of_eq rfl) (hb hby at_135) (fun _ _ => ⟨rfl, rfl, (by decide : 2 + 0 ≤ _), (by decide : 136 + 0 ≤ _)⟩)
          dsimp only [Pt.U, Pt.locs, Pt.cells, Pt.slots] at X149 l149 y149 z149 st149 hQ149
          subst l149 y149 z149
          obtain ⟨rfl, N149q, hh149⟩ := hQ149
          have N149 := Fr.app N148 N149q
          refine own_goW (T' := T149) (f' := (mkF m 148 #[.val (.int p0), .val (.int p1), .val (.int zm), .val (.int (-12 : Int32)), .val (.ref wO)] [(.int (1 : Int32))])) (fun _ k => st149 _ (XS.aload X149.here hx rfl (hb hby at_138) rfl rfl (Jvm.RoadKit.acmp (g := (mkF m 140 #[.val (.int p0), .val (.int p1), .val (.int zm), .val (.int (-12 : Int32)), .val (.ref wO)] [(.ref wO), (.ref wO)])) X149 hx rfl rfl rfl (pc0 := 140) (pc' := 143) (same := true) rfl (hb hby at_140) rfl (decide_eq_true rfl) (by decide) (by decide) (XS.iconst X149.here hx rfl (hb hby at_143) (XS.goto X149.here hx rfl (pc0 := 144) (pc' := 148) rfl (hb hby at_144) (by decide) (by decide) k))))) ?_
          refine own_retW X149 hS (by rw [hh149]; exact (Nat.le_refl _)) (v := some (.int (1 : Int32))) (fun h => by rw [Bd.returns] at h; cases h) Bd.notSynchronized (fun fs hr => retN X149 hx (t := .boolean) Bd.returns (by simp) (hb hby at_148) hr) ?_ (by decide) (by decide)
          show Q0 Z B p0 p1 cs fm wN wT wM wB wY wO h0 n0 _ T149.heap T149.vm _
          exact ⟨rfl, N149⟩
        · refine own_goW (T' := s₁) (f' := (mkF m 78 #[.val (.int p0), .val (.int p1), .val (.int zm), .val (.int (-11 : Int32)), .unset] [(.int (-11 : Int32))])) (fun _ k => XS.iloadN X0.here hx rfl (hb hby at_77) rfl k) ?_
          obtain ⟨_, _, ⟨T150, L150, k150, n150⟩, -, X150, hS150, hgr150, ⟨Lc150, hQ150, l150, y150, z150⟩, st150⟩ := callSS X0 hx (y := mn7) hown (mvT hZ (ow8 hw)) (mvT hZ (ow9 hw)) (mvT hZ (ow10 hw)) (mvT hZ (ow11 hw)) (by decide) (own_backS (W := 0) (rm2O l Z a0 hw [] (s.setVm s.vm) (-11 : Int32) cs fm wN wT wM wB wY wO h0 n0 Z0 S_cs hcs S_fm hfm S_N S_T S_M S_B S_Y S_O I1 (fun _ _ q => by rw [hZh]; exact q) hcw hh7 (by decide) (by decide) (by decide +kernel)) hZ (ow11 hw) (ow10 hw) (by decide) (by decide)) (g := (mkF m 78 #[.val (.int p0), .val (.int p1), .val (.int zm), .val (.int (-11 : Int32)), .unset] [(.int (-11 : Int32))])) rfl (by rw [hml]; rfl) (argsL := [(.int (-11 : Int32))]) (rest := []) (lenOf pd3 rfl) rfl (by show 2 * 0 + _ ≤ _; exact Nat.le_of_eq rfl) (hb hby at_78) (fun _ _ => ⟨rfl, e0, (by decide : 0 + 2 ≤ _), (by decide : 0 + 136 ≤ _)⟩)
          dsimp only [Pt.U, Pt.locs, Pt.cells, Pt.slots] at X150 l150 y150 z150 st150 hQ150 hS150 hgr150
          subst l150 y150 z150
          have hM150 := hS150
          obtain ⟨X150, hS, hZ, hown⟩ := rebS hS (by rw [e0]; exact (Nat.le_refl _) : _ ≤ s₁.heap.size) X150 hM150 hgr150 hZ hown
          obtain ⟨rfl, N150q, K150⟩ := hQ150
          have N150 := Fr.app N0 N150q
          have KK150 : Keep h0 T150.heap [] := Keep.trans (Keep.refl h0 []) K150 all0
          refine own_goW (T' := T150) (f' := (mkF m 135 #[.val (.int p0), .val (.int p1), .val (.int zm), .val (.int (-11 : Int32)), .val (.ref wO)] [(.int (-11 : Int32))])) (fun _ k => st150.trans (XS.astore X150.here hx rfl (hb hby at_81) rfl rfl (l' := #[.val (.int p0), .val (.int p1), .val (.int zm), .val (.int (-11 : Int32)), .val (.ref wO)]) rfl (XS.goto X150.here hx rfl (pc0 := 83) (pc' := 134) rfl (hb hby at_83) (by decide) (by decide) (XS.iloadN X150.here hx rfl (hb hby at_134) rfl k)))) ?_
          obtain ⟨_, _, ⟨T151, L151, k151, n151⟩, -, X151, ⟨Lc151, hQ151, l151, y151, z151⟩, st151⟩ := Jvm.LawKit.callS X150 hx (y := mn5) hown (mvT hZ (ow4 hw)) (mvT hZ (ow5 hw)) (mvT hZ (ow2 hw)) (mvT hZ (ow6 hw)) (by decide) (backOf (W := 0) (rm1O l Z a0 hw [] (-11 : Int32) wN wT wM wB wY wO T150.heap n0 (Nat.le_trans Z0 K150.1) (own_sta_keep S_N K150 own_ws0) (own_sta_keep S_T K150 own_ws0) (own_sta_keep S_M K150 own_ws0) (own_sta_keep S_B K150 own_ws0) (own_sta_keep S_Y K150 own_ws0) (own_sta_keep S_O K150 own_ws0) (by decide +kernel)) hZ (ow6 hw) (ow2 hw) (by decide) (by decide)) (g := (mkF m 135 #[.val (.int p0), .val (.int p1), .val (.int zm), .val (.int (-11 : Int32)), .val (.ref wO)] [(.int (-11 : Int32))])) rfl (by rw [hml]; rfl) (argsL := [(.int (-11 : Int32))]) (rest := []) (lenOf pd3 rfl) rfl (by show 2 * 0 + _ ≤ _; exact Nat.le_of_eq rfl) (hb hby at_135) (fun _ _ => ⟨rfl, rfl, (by decide : 2 + 0 ≤ _), (by decide : 136 + 0 ≤ _)⟩)
          dsimp only [Pt.U, Pt.locs, Pt.cells, Pt.slots] at X151 l151 y151 z151 st151 hQ151
          subst l151 y151 z151
          obtain ⟨rfl, N151q, hh151⟩ := hQ151
          have N151 := Fr.app N150 N151q
          refine own_goW (T' := T151) (f' := (mkF m 148 #[.val (.int p0), .val (.int p1), .val (.int zm), .val (.int (-11 : Int32)), .val (.ref wO)] [(.int (1 : Int32))])) (fun _ k => st151 _ (XS.aload X151.here hx rfl (hb hby at_138) rfl rfl (Jvm.RoadKit.acmp (g := (mkF m 140 #[.val (.int p0), .val (.int p1), .val (.int zm), .val (.int (-11 : Int32)), .val (.ref wO)] [(.ref wO), (.ref wO)])) X151 hx rfl rfl rfl (pc0 := 140) (pc' := 143) (same := true) rfl (hb hby at_140) rfl (decide_eq_true rfl) (by decide) (by decide) (XS.iconst X151.here hx rfl (hb hby at_143) (XS.goto X151.here hx rfl (pc0 := 144) (pc' := 148) rfl (hb hby at_144) (by decide) (by decide) k))))) ?_
          refine own_retW X151 hS (by rw [hh151]; exact (Nat.le_refl _)) (v := some (.int (1 : Int32))) (fun h => by rw [Bd.returns] at h; cases h) Bd.notSynchronized (fun fs hr => retN X151 hx (t := .boolean) Bd.returns (by simp) (hb hby at_148) hr) ?_ (by decide) (by decide)
          show Q0 Z B p0 p1 cs fm wN wT wM wB wY wO h0 n0 _ T151.heap T151.vm _
          exact ⟨rfl, N151⟩
        · refine own_goW (T' := s₁) (f' := (mkF m 78 #[.val (.int p0), .val (.int p1), .val (.int zm), .val (.int (-10 : Int32)), .unset] [(.int (-10 : Int32))])) (fun _ k => XS.iloadN X0.here hx rfl (hb hby at_77) rfl k) ?_
          obtain ⟨_, _, ⟨T152, L152, k152, n152⟩, -, X152, hS152, hgr152, ⟨Lc152, hQ152, l152, y152, z152⟩, st152⟩ := callSS X0 hx (y := mn7) hown (mvT hZ (ow8 hw)) (mvT hZ (ow9 hw)) (mvT hZ (ow10 hw)) (mvT hZ (ow11 hw)) (by decide) (own_backS (W := 0) (rm2O l Z a0 hw [] (s.setVm s.vm) (-10 : Int32) cs fm wN wT wM wB wY wO h0 n0 Z0 S_cs hcs S_fm hfm S_N S_T S_M S_B S_Y S_O I1 (fun _ _ q => by rw [hZh]; exact q) hcw hh7 (by decide) (by decide) (by decide +kernel)) hZ (ow11 hw) (ow10 hw) (by decide) (by decide)) (g := (mkF m 78 #[.val (.int p0), .val (.int p1), .val (.int zm), .val (.int (-10 : Int32)), .unset] [(.int (-10 : Int32))])) rfl (by rw [hml]; rfl) (argsL := [(.int (-10 : Int32))]) (rest := []) (lenOf pd3 rfl) rfl (by show 2 * 0 + _ ≤ _; exact Nat.le_of_eq rfl) (hb hby at_78) (fun _ _ => ⟨rfl, e0, (by decide : 0 + 2 ≤ _), (by decide : 0 + 136 ≤ _)⟩)
          dsimp only [Pt.U, Pt.locs, Pt.cells, Pt.slots] at X152 l152 y152 z152 st152 hQ152 hS152 hgr152
          subst l152 y152 z152
          have hM152 := hS152
          obtain ⟨X152, hS, hZ, hown⟩ := rebS hS (by rw [e0]; exact (Nat.le_refl _) : _ ≤ s₁.heap.size) X152 hM152 hgr152 hZ hown
          obtain ⟨rfl, N152q, K152⟩ := hQ152
          have N152 := Fr.app N0 N152q
          have KK152 : Keep h0 T152.heap [] := Keep.trans (Keep.refl h0 []) K152 all0
          refine own_goW (T' := T152) (f' := (mkF m 135 #[.val (.int p0), .val (.int p1), .val (.int zm), .val (.int (-10 : Int32)), .val (.ref wO)] [(.int (-10 : Int32))])) (fun _ k => st152.trans (XS.astore X152.here hx rfl (hb hby at_81) rfl rfl (l' := #[.val (.int p0), .val (.int p1), .val (.int zm), .val (.int (-10 : Int32)), .val (.ref wO)]) rfl (XS.goto X152.here hx rfl (pc0 := 83) (pc' := 134) rfl (hb hby at_83) (by decide) (by decide) (XS.iloadN X152.here hx rfl (hb hby at_134) rfl k)))) ?_
          obtain ⟨_, _, ⟨T153, L153, k153, n153⟩, -, X153, ⟨Lc153, hQ153, l153, y153, z153⟩, st153⟩ := Jvm.LawKit.callS X152 hx (y := mn5) hown (mvT hZ (ow4 hw)) (mvT hZ (ow5 hw)) (mvT hZ (ow2 hw)) (mvT hZ (ow6 hw)) (by decide) (backOf (W := 0) (rm1O l Z a0 hw [] (-10 : Int32) wN wT wM wB wY wO T152.heap n0 (Nat.le_trans Z0 K152.1) (own_sta_keep S_N K152 own_ws0) (own_sta_keep S_T K152 own_ws0) (own_sta_keep S_M K152 own_ws0) (own_sta_keep S_B K152 own_ws0) (own_sta_keep S_Y K152 own_ws0) (own_sta_keep S_O K152 own_ws0) (by decide +kernel)) hZ (ow6 hw) (ow2 hw) (by decide) (by decide)) (g := (mkF m 135 #[.val (.int p0), .val (.int p1), .val (.int zm), .val (.int (-10 : Int32)), .val (.ref wO)] [(.int (-10 : Int32))])) rfl (by rw [hml]; rfl) (argsL := [(.int (-10 : Int32))]) (rest := []) (lenOf pd3 rfl) rfl (by show 2 * 0 + _ ≤ _; exact Nat.le_of_eq rfl) (hb hby at_135) (fun _ _ => ⟨rfl, rfl, (by decide : 2 + 0 ≤ _), (by decide : 136 + 0 ≤ _)⟩)
          dsimp only [Pt.U, Pt.locs, Pt.cells, Pt.slots] at X153 l153 y153 z153 st153 hQ153
          subst l153 y153 z153
          obtain ⟨rfl, N153q, hh153⟩ := hQ153
          have N153 := Fr.app N152 N153q
          refine own_goW (T' := T153) (f' := (mkF m 148 #[.val (.int p0), .val (.int p1), .val (.int zm), .val (.int (-10 : Int32)), .val (.ref wO)] [(.int (1 : Int32))])) (fun _ k => st153 _ (XS.aload X153.here hx rfl (hb hby at_138) rfl rfl (Jvm.RoadKit.acmp (g := (mkF m 140 #[.val (.int p0), .val (.int p1), .val (.int zm), .val (.int (-10 : Int32)), .val (.ref wO)] [(.ref wO), (.ref wO)])) X153 hx rfl rfl rfl (pc0 := 140) (pc' := 143) (same := true) rfl (hb hby at_140) rfl (decide_eq_true rfl) (by decide) (by decide) (XS.iconst X153.here hx rfl (hb hby at_143) (XS.goto X153.here hx rfl (pc0 := 144) (pc' := 148) rfl (hb hby at_144) (by decide) (by decide) k))))) ?_
          refine own_retW X153 hS (by rw [hh153]; exact (Nat.le_refl _)) (v := some (.int (1 : Int32))) (fun h => by rw [Bd.returns] at h; cases h) Bd.notSynchronized (fun fs hr => retN X153 hx (t := .boolean) Bd.returns (by simp) (hb hby at_148) hr) ?_ (by decide) (by decide)
          show Q0 Z B p0 p1 cs fm wN wT wM wB wY wO h0 n0 _ T153.heap T153.vm _
          exact ⟨rfl, N153⟩
        · refine own_goW (T' := s₁) (f' := (mkF m 78 #[.val (.int p0), .val (.int p1), .val (.int zm), .val (.int (-9 : Int32)), .unset] [(.int (-9 : Int32))])) (fun _ k => XS.iloadN X0.here hx rfl (hb hby at_77) rfl k) ?_
          obtain ⟨_, _, ⟨T154, L154, k154, n154⟩, -, X154, hS154, hgr154, ⟨Lc154, hQ154, l154, y154, z154⟩, st154⟩ := callSS X0 hx (y := mn7) hown (mvT hZ (ow8 hw)) (mvT hZ (ow9 hw)) (mvT hZ (ow10 hw)) (mvT hZ (ow11 hw)) (by decide) (own_backS (W := 0) (rm2T l Z a0 hw [] (s.setVm s.vm) (-9 : Int32) cs fm wN wT wM wB wY wO h0 n0 Z0 S_cs hcs S_fm hfm S_N S_T S_M S_B S_Y S_O I1 (fun _ _ q => by rw [hZh]; exact q) hcw hh7 (by decide) (by decide) (by decide +kernel)) hZ (ow11 hw) (ow10 hw) (by decide) (by decide)) (g := (mkF m 78 #[.val (.int p0), .val (.int p1), .val (.int zm), .val (.int (-9 : Int32)), .unset] [(.int (-9 : Int32))])) rfl (by rw [hml]; rfl) (argsL := [(.int (-9 : Int32))]) (rest := []) (lenOf pd3 rfl) rfl (by show 2 * 0 + _ ≤ _; exact Nat.le_of_eq rfl) (hb hby at_78) (fun _ _ => ⟨rfl, e0, (by decide : 0 + 2 ≤ _), (by decide : 0 + 136 ≤ _)⟩)
          dsimp only [Pt.U, Pt.locs, Pt.cells, Pt.slots] at X154 l154 y154 z154 st154 hQ154 hS154 hgr154
          subst l154 y154 z154
          have hM154 := hS154
          obtain ⟨X154, hS, hZ, hown⟩ := rebS hS (by rw [e0]; exact (Nat.le_refl _) : _ ≤ s₁.heap.size) X154 hM154 hgr154 hZ hown
          obtain ⟨rfl, N154q, K154⟩ := hQ154
          have N154 := Fr.app N0 N154q
          have KK154 : Keep h0 T154.heap [] := Keep.trans (Keep.refl h0 []) K154 all0
          refine own_goW (T' := T154) (f' := (mkF m 135 #[.val (.int p0), .val (.int p1), .val (.int zm), .val (.int (-9 : Int32)), .val (.ref wT)] [(.int (-9 : Int32))])) (fun _ k => st154.trans (XS.astore X154.here hx rfl (hb hby at_81) rfl rfl (l' := #[.val (.int p0), .val (.int p1), .val (.int zm), .val (.int (-9 : Int32)), .val (.ref wT)]) rfl (XS.goto X154.here hx rfl (pc0 := 83) (pc' := 134) rfl (hb hby at_83) (by decide) (by decide) (XS.iloadN X154.here hx rfl (hb hby at_134) rfl k)))) ?_
          obtain ⟨_, _, ⟨T155, L155, k155, n155⟩, -, X155, ⟨Lc155, hQ155, l155, y155, z155⟩, st155⟩ := Jvm.LawKit.callS X154 hx (y := mn5) hown (mvT hZ (ow4 hw)) (mvT hZ (ow5 hw)) (mvT hZ (ow2 hw)) (mvT hZ (ow6 hw)) (by decide) (backOf (W := 0) (rm1T l Z a0 hw [] (-9 : Int32) wN wT wM wB wY wO T154.heap n0 (Nat.le_trans Z0 K154.1) (own_sta_keep S_N K154 own_ws0) (own_sta_keep S_T K154 own_ws0) (own_sta_keep S_M K154 own_ws0) (own_sta_keep S_B K154 own_ws0) (own_sta_keep S_Y K154 own_ws0) (own_sta_keep S_O K154 own_ws0) (by decide +kernel)) hZ (ow6 hw) (ow2 hw) (by decide) (by decide)) (g := (mkF m 135 #[.val (.int p0), .val (.int p1), .val (.int zm), .val (.int (-9 : Int32)), .val (.ref wT)] [(.int (-9 : Int32))])) rfl (by rw [hml]; rfl) (argsL := [(.int (-9 : Int32))]) (rest := []) (lenOf pd3 rfl) rfl (by show 2 * 0 + _ ≤ _; exact Nat.le_of_eq rfl) (hb hby at_135) (fun _ _ => ⟨rfl, rfl, (by decide : 2 + 0 ≤ _), (by decide : 136 + 0 ≤ _)⟩)
          dsimp only [Pt.U, Pt.locs, Pt.cells, Pt.slots] at X155 l155 y155 z155 st155 hQ155
          subst l155 y155 z155
          obtain ⟨rfl, N155q, hh155⟩ := hQ155
          have N155 := Fr.app N154 N155q
          refine own_goW (T' := T155) (f' := (mkF m 148 #[.val (.int p0), .val (.int p1), .val (.int zm), .val (.int (-9 : Int32)), .val (.ref wT)] [(.int (1 : Int32))])) (fun _ k => st155 _ (XS.aload X155.here hx rfl (hb hby at_138) rfl rfl (Jvm.RoadKit.acmp (g := (mkF m 140 #[.val (.int p0), .val (.int p1), .val (.int zm), .val (.int (-9 : Int32)), .val (.ref wT)] [(.ref wT), (.ref wT)])) X155 hx rfl rfl rfl (pc0 := 140) (pc' := 143) (same := true) rfl (hb hby at_140) rfl (decide_eq_true rfl) (by decide) (by decide) (XS.iconst X155.here hx rfl (hb hby at_143) (XS.goto X155.here hx rfl (pc0 := 144) (pc' := 148) rfl (hb hby at_144) (by decide) (by decide) k))))) ?_
          refine own_retW X155 hS (by rw [hh155]; exact (Nat.le_refl _)) (v := some (.int (1 : Int32))) (fun h => by rw [Bd.returns] at h; cases h) Bd.notSynchronized (fun fs hr => retN X155 hx (t := .boolean) Bd.returns (by simp) (hb hby at_148) hr) ?_ (by decide) (by decide)
          show Q0 Z B p0 p1 cs fm wN wT wM wB wY wO h0 n0 _ T155.heap T155.vm _
          exact ⟨rfl, N155⟩
        · refine own_goW (T' := s₁) (f' := (mkF m 78 #[.val (.int p0), .val (.int p1), .val (.int zm), .val (.int (-8 : Int32)), .unset] [(.int (-8 : Int32))])) (fun _ k => XS.iloadN X0.here hx rfl (hb hby at_77) rfl k) ?_
          obtain ⟨_, _, ⟨T156, L156, k156, n156⟩, -, X156, hS156, hgr156, ⟨Lc156, hQ156, l156, y156, z156⟩, st156⟩ := callSS X0 hx (y := mn7) hown (mvT hZ (ow8 hw)) (mvT hZ (ow9 hw)) (mvT hZ (ow10 hw)) (mvT hZ (ow11 hw)) (by decide) (own_backS (W := 0) (rm2O l Z a0 hw [] (s.setVm s.vm) (-8 : Int32) cs fm wN wT wM wB wY wO h0 n0 Z0 S_cs hcs S_fm hfm S_N S_T S_M S_B S_Y S_O I1 (fun _ _ q => by rw [hZh]; exact q) hcw hh7 (by decide) (by decide) (by decide +kernel)) hZ (ow11 hw) (ow10 hw) (by decide) (by decide)) (g := (mkF m 78 #[.val (.int p0), .val (.int p1), .val (.int zm), .val (.int (-8 : Int32)), .unset] [(.int (-8 : Int32))])) rfl (by rw [hml]; rfl) (argsL := [(.int (-8 : Int32))]) (rest := []) (lenOf pd3 rfl) rfl (by show 2 * 0 + _ ≤ _; exact Nat.le_of_eq rfl) (hb hby at_78) (fun _ _ => ⟨rfl, e0, (by decide : 0 + 2 ≤ _), (by decide : 0 + 136 ≤ _)⟩)
          dsimp only [Pt.U, Pt.locs, Pt.cells, Pt.slots] at X156 l156 y156 z156 st156 hQ156 hS156 hgr156
          subst l156 y156 z156
          have hM156 := hS156
          obtain ⟨X156, hS, hZ, hown⟩ := rebS hS (by rw [e0]; exact (Nat.le_refl _) : _ ≤ s₁.heap.size) X156 hM156 hgr156 hZ hown
          obtain ⟨rfl, N156q, K156⟩ := hQ156
          have N156 := Fr.app N0 N156q
          have KK156 : Keep h0 T156.heap [] := Keep.trans (Keep.refl h0 []) K156 all0
          refine own_goW (T' := T156) (f' := (mkF m 135 #[.val (.int p0), .val (.int p1), .val (.int zm), .val (.int (-8 : Int32)), .val (.ref wO)] [(.int (-8 : Int32))])) (fun _ k => st156.trans (XS.astore X156.here hx rfl (hb hby at_81) rfl rfl (l' := #[.val (.int p0), .val (.int p1), .val (.int zm), .val (.int (-8 : Int32)), .val (.ref wO)]) rfl (XS.goto X156.here hx rfl (pc0 := 83) (pc' := 134) rfl (hb hby at_83) (by decide) (by decide) (XS.iloadN X156.here hx rfl (hb hby at_134) rfl k)))) ?_
          obtain ⟨_, _, ⟨T157, L157, k157, n157⟩, -, X157, ⟨Lc157, hQ157, l157, y157, z157⟩, st157⟩ := Jvm.LawKit.callS X156 hx (y := mn5) hown (mvT hZ (ow4 hw)) (mvT hZ (ow5 hw)) (mvT hZ (ow2 hw)) (mvT hZ (ow6 hw)) (by decide) (backOf (W := 0) (rm1O l Z a0 hw [] (-8 : Int32) wN wT wM wB wY wO T156.heap n0 (Nat.le_trans Z0 K156.1) (own_sta_keep S_N K156 own_ws0) (own_sta_keep S_T K156 own_ws0) (own_sta_keep S_M K156 own_ws0) (own_sta_keep S_B K156 own_ws0) (own_sta_keep S_Y K156 own_ws0) (own_sta_keep S_O K156 own_ws0) (by decide +kernel)) hZ (ow6 hw) (ow2 hw) (by decide) (by decide)) (g := (mkF m 135 #[.val (.int p0), .val (.int p1), .val (.int zm), .val (.int (-8 : Int32)), .val (.ref wO)] [(.int (-8 : Int32))])) rfl (by rw [hml]; rfl) (argsL := [(.int (-8 : Int32))]) (rest := []) (lenOf pd3 rfl) rfl (by show 2 * 0 + _ ≤ _; exact Nat.le_of_eq rfl) (hb hby at_135) (fun _ _ => ⟨rfl, rfl, (by decide : 2 + 0 ≤ _), (by decide : 136 + 0 ≤ _)⟩)
          dsimp only [Pt.U, Pt.locs, Pt.cells, Pt.slots] at X157 l157 y157 z157 st157 hQ157
          subst l157 y157 z157
          obtain ⟨rfl, N157q, hh157⟩ := hQ157
          have N157 := Fr.app N156 N157q
          refine own_goW (T' := T157) (f' := (mkF m 148 #[.val (.int p0), .val (.int p1), .val (.int zm), .val (.int (-8 : Int32)), .val (.ref wO)] [(.int (1 : Int32))])) (fun _ k => st157 _ (XS.aload X157.here hx rfl (hb hby at_138) rfl rfl (Jvm.RoadKit.acmp (g := (mkF m 140 #[.val (.int p0), .val (.int p1), .val (.int zm), .val (.int (-8 : Int32)), .val (.ref wO)] [(.ref wO), (.ref wO)])) X157 hx rfl rfl rfl (pc0 := 140) (pc' := 143) (same := true) rfl (hb hby at_140) rfl (decide_eq_true rfl) (by decide) (by decide) (XS.iconst X157.here hx rfl (hb hby at_143) (XS.goto X157.here hx rfl (pc0 := 144) (pc' := 148) rfl (hb hby at_144) (by decide) (by decide) k))))) ?_
          refine own_retW X157 hS (by rw [hh157]; exact (Nat.le_refl _)) (v := some (.int (1 : Int32))) (fun h => by rw [Bd.returns] at h; cases h) Bd.notSynchronized (fun fs hr => retN X157 hx (t := .boolean) Bd.returns (by simp) (hb hby at_148) hr) ?_ (by decide) (by decide)
          show Q0 Z B p0 p1 cs fm wN wT wM wB wY wO h0 n0 _ T157.heap T157.vm _
          exact ⟨rfl, N157⟩
        · refine own_goW (T' := s₁) (f' := (mkF m 78 #[.val (.int p0), .val (.int p1), .val (.int zm), .val (.int (-7 : Int32)), .unset] [(.int (-7 : Int32))])) (fun _ k => XS.iloadN X0.here hx rfl (hb hby at_77) rfl k) ?_
          obtain ⟨_, _, ⟨T158, L158, k158, n158⟩, -, X158, hS158, hgr158, ⟨Lc158, hQ158, l158, y158, z158⟩, st158⟩ := callSS X0 hx (y := mn7) hown (mvT hZ (ow8 hw)) (mvT hZ (ow9 hw)) (mvT hZ (ow10 hw)) (mvT hZ (ow11 hw)) (by decide) (own_backS (W := 0) (rm2B l Z a0 hw [] (s.setVm s.vm) (-7 : Int32) cs fm wN wT wM wB wY wO h0 n0 Z0 S_cs hcs S_fm hfm S_N S_T S_M S_B S_Y S_O I1 (fun _ _ q => by rw [hZh]; exact q) hcw hh7 (by decide) (by decide) (by decide +kernel)) hZ (ow11 hw) (ow10 hw) (by decide) (by decide)) (g := (mkF m 78 #[.val (.int p0), .val (.int p1), .val (.int zm), .val (.int (-7 : Int32)), .unset] [(.int (-7 : Int32))])) rfl (by rw [hml]; rfl) (argsL := [(.int (-7 : Int32))]) (rest := []) (lenOf pd3 rfl) rfl (by show 2 * 0 + _ ≤ _; exact Nat.le_of_eq rfl) (hb hby at_78) (fun _ _ => ⟨rfl, e0, (by decide : 0 + 2 ≤ _), (by decide : 0 + 136 ≤ _)⟩)
          dsimp only [Pt.U, Pt.locs, Pt.cells, Pt.slots] at X158 l158 y158 z158 st158 hQ158 hS158 hgr158
          subst l158 y158 z158
          have hM158 := hS158
          obtain ⟨X158, hS, hZ, hown⟩ := rebS hS (by rw [e0]; exact (Nat.le_refl _) : _ ≤ s₁.heap.size) X158 hM158 hgr158 hZ hown
          obtain ⟨rfl, N158q, K158⟩ := hQ158
          have N158 := Fr.app N0 N158q
          have KK158 : Keep h0 T158.heap [] := Keep.trans (Keep.refl h0 []) K158 all0
          refine own_goW (T' := T158) (f' := (mkF m 135 #[.val (.int p0), .val (.int p1), .val (.int zm), .val (.int (-7 : Int32)), .val (.ref wB)] [(.int (-7 : Int32))])) (fun _ k => st158.trans (XS.astore X158.here hx rfl (hb hby at_81) rfl rfl (l' := #[.val (.int p0), .val (.int p1), .val (.int zm), .val (.int (-7 : Int32)), .val (.ref wB)]) rfl (XS.goto X158.here hx rfl (pc0 := 83) (pc' := 134) rfl (hb hby at_83) (by decide) (by decide) (XS.iloadN X158.here hx rfl (hb hby at_134) rfl k)))) ?_
          obtain ⟨_, _, ⟨T159, L159, k159, n159⟩, -, X159, ⟨Lc159, hQ159, l159, y159, z159⟩, st159⟩ := Jvm.LawKit.callS X158 hx (y := mn5) hown (mvT hZ (ow4 hw)) (mvT hZ (ow5 hw)) (mvT hZ (ow2 hw)) (mvT hZ (ow6 hw)) (by decide) (backOf (W := 0) (rm1B l Z a0 hw [] (-7 : Int32) wN wT wM wB wY wO T158.heap n0 (Nat.le_trans Z0 K158.1) (own_sta_keep S_N K158 own_ws0) (own_sta_keep S_T K158 own_ws0) (own_sta_keep S_M K158 own_ws0) (own_sta_keep S_B K158 own_ws0) (own_sta_keep S_Y K158 own_ws0) (own_sta_keep S_O K158 own_ws0) (by decide +kernel)) hZ (ow6 hw) (ow2 hw) (by decide) (by decide)) (g := (mkF m 135 #[.val (.int p0), .val (.int p1), .val (.int zm), .val (.int (-7 : Int32)), .val (.ref wB)] [(.int (-7 : Int32))])) rfl (by rw [hml]; rfl) (argsL := [(.int (-7 : Int32))]) (rest := []) (lenOf pd3 rfl) rfl (by show 2 * 0 + _ ≤ _; exact Nat.le_of_eq rfl) (hb hby at_135) (fun _ _ => ⟨rfl, rfl, (by decide : 2 + 0 ≤ _), (by decide : 136 + 0 ≤ _)⟩)
          dsimp only [Pt.U, Pt.locs, Pt.cells, Pt.slots] at X159 l159 y159 z159 st159 hQ159
          subst l159 y159 z159
          obtain ⟨rfl, N159q, hh159⟩ := hQ159
          have N159 := Fr.app N158 N159q
          refine own_goW (T' := T159) (f' := (mkF m 148 #[.val (.int p0), .val (.int p1), .val (.int zm), .val (.int (-7 : Int32)), .val (.ref wB)] [(.int (1 : Int32))])) (fun _ k => st159 _ (XS.aload X159.here hx rfl (hb hby at_138) rfl rfl (Jvm.RoadKit.acmp (g := (mkF m 140 #[.val (.int p0), .val (.int p1), .val (.int zm), .val (.int (-7 : Int32)), .val (.ref wB)] [(.ref wB), (.ref wB)])) X159 hx rfl rfl rfl (pc0 := 140) (pc' := 143) (same := true) rfl (hb hby at_140) rfl (decide_eq_true rfl) (by decide) (by decide) (XS.iconst X159.here hx rfl (hb hby at_143) (XS.goto X159.here hx rfl (pc0 := 144) (pc' := 148) rfl (hb hby at_144) (by decide) (by decide) k))))) ?_
          refine own_retW X159 hS (by rw [hh159]; exact (Nat.le_refl _)) (v := some (.int (1 : Int32))) (fun h => by rw [Bd.returns] at h; cases h) Bd.notSynchronized (fun fs hr => retN X159 hx (t := .boolean) Bd.returns (by simp) (hb hby at_148) hr) ?_ (by decide) (by decide)
          show Q0 Z B p0 p1 cs fm wN wT wM wB wY wO h0 n0 _ T159.heap T159.vm _
          exact ⟨rfl, N159⟩
        · refine own_goW (T' := s₁) (f' := (mkF m 78 #[.val (.int p0), .val (.int p1), .val (.int zm), .val (.int (-6 : Int32)), .unset] [(.int (-6 : Int32))])) (fun _ k => XS.iloadN X0.here hx rfl (hb hby at_77) rfl k) ?_
          obtain ⟨_, _, ⟨T160, L160, k160, n160⟩, -, X160, hS160, hgr160, ⟨Lc160, hQ160, l160, y160, z160⟩, st160⟩ := callSS X0 hx (y := mn7) hown (mvT hZ (ow8 hw)) (mvT hZ (ow9 hw)) (mvT hZ (ow10 hw)) (mvT hZ (ow11 hw)) (by decide) (own_backS (W := 0) (rm2N l Z a0 hw [] (s.setVm s.vm) (-6 : Int32) cs fm wN wT wM wB wY wO h0 n0 Z0 S_cs hcs S_fm hfm S_N S_T S_M S_B S_Y S_O I1 (fun _ _ q => by rw [hZh]; exact q) hcw hh7 (by decide) (by decide) (by decide +kernel)) hZ (ow11 hw) (ow10 hw) (by decide) (by decide)) (g := (mkF m 78 #[.val (.int p0), .val (.int p1), .val (.int zm), .val (.int (-6 : Int32)), .unset] [(.int (-6 : Int32))])) rfl (by rw [hml]; rfl) (argsL := [(.int (-6 : Int32))]) (rest := []) (lenOf pd3 rfl) rfl (by show 2 * 0 + _ ≤ _; exact Nat.le_of_eq rfl) (hb hby at_78) (fun _ _ => ⟨rfl, e0, (by decide : 0 + 2 ≤ _), (by decide : 0 + 136 ≤ _)⟩)
          dsimp only [Pt.U, Pt.locs, Pt.cells, Pt.slots] at X160 l160 y160 z160 st160 hQ160 hS160 hgr160
          subst l160 y160 z160
          have hM160 := hS160
          obtain ⟨X160, hS, hZ, hown⟩ := rebS hS (by rw [e0]; exact (Nat.le_refl _) : _ ≤ s₁.heap.size) X160 hM160 hgr160 hZ hown
          obtain ⟨rfl, N160q, K160⟩ := hQ160
          have N160 := Fr.app N0 N160q
          have KK160 : Keep h0 T160.heap [] := Keep.trans (Keep.refl h0 []) K160 all0
          refine own_goW (T' := T160) (f' := (mkF m 135 #[.val (.int p0), .val (.int p1), .val (.int zm), .val (.int (-6 : Int32)), .val (.ref wN)] [(.int (-6 : Int32))])) (fun _ k => st160.trans (XS.astore X160.here hx rfl (hb hby at_81) rfl rfl (l' := #[.val (.int p0), .val (.int p1), .val (.int zm), .val (.int (-6 : Int32)), .val (.ref wN)]) rfl (XS.goto X160.here hx rfl (pc0 := 83) (pc' := 134) rfl (hb hby at_83) (by decide) (by decide) (XS.iloadN X160.here hx rfl (hb hby at_134) rfl k)))) ?_
          obtain ⟨_, _, ⟨T161, L161, k161, n161⟩, -, X161, ⟨Lc161, hQ161, l161, y161, z161⟩, st161⟩ := Jvm.LawKit.callS X160 hx (y := mn5) hown (mvT hZ (ow4 hw)) (mvT hZ (ow5 hw)) (mvT hZ (ow2 hw)) (mvT hZ (ow6 hw)) (by decide) (backOf (W := 0) (rm1N l Z a0 hw [] (-6 : Int32) wN wT wM wB wY wO T160.heap n0 (Nat.le_trans Z0 K160.1) (own_sta_keep S_N K160 own_ws0) (own_sta_keep S_T K160 own_ws0) (own_sta_keep S_M K160 own_ws0) (own_sta_keep S_B K160 own_ws0) (own_sta_keep S_Y K160 own_ws0) (own_sta_keep S_O K160 own_ws0) (by decide +kernel)) hZ (ow6 hw) (ow2 hw) (by decide) (by decide)) (g := (mkF m 135 #[.val (.int p0), .val (.int p1), .val (.int zm), .val (.int (-6 : Int32)), .val (.ref wN)] [(.int (-6 : Int32))])) rfl (by rw [hml]; rfl) (argsL := [(.int (-6 : Int32))]) (rest := []) (lenOf pd3 rfl) rfl (by show 2 * 0 + _ ≤ _; exact Nat.le_of_eq rfl) (hb hby at_135) (fun _ _ => ⟨rfl, rfl, (by decide : 2 + 0 ≤ _), (by decide : 136 + 0 ≤ _)⟩)
          dsimp only [Pt.U, Pt.locs, Pt.cells, Pt.slots] at X161 l161 y161 z161 st161 hQ161
          subst l161 y161 z161
          obtain ⟨rfl, N161q, hh161⟩ := hQ161
          have N161 := Fr.app N160 N161q
          refine own_goW (T' := T161) (f' := (mkF m 148 #[.val (.int p0), .val (.int p1), .val (.int zm), .val (.int (-6 : Int32)), .val (.ref wN)] [(.int (1 : Int32))])) (fun _ k => st161 _ (XS.aload X161.here hx rfl (hb hby at_138) rfl rfl (Jvm.RoadKit.acmp (g := (mkF m 140 #[.val (.int p0), .val (.int p1), .val (.int zm), .val (.int (-6 : Int32)), .val (.ref wN)] [(.ref wN), (.ref wN)])) X161 hx rfl rfl rfl (pc0 := 140) (pc' := 143) (same := true) rfl (hb hby at_140) rfl (decide_eq_true rfl) (by decide) (by decide) (XS.iconst X161.here hx rfl (hb hby at_143) (XS.goto X161.here hx rfl (pc0 := 144) (pc' := 148) rfl (hb hby at_144) (by decide) (by decide) k))))) ?_
          refine own_retW X161 hS (by rw [hh161]; exact (Nat.le_refl _)) (v := some (.int (1 : Int32))) (fun h => by rw [Bd.returns] at h; cases h) Bd.notSynchronized (fun fs hr => retN X161 hx (t := .boolean) Bd.returns (by simp) (hb hby at_148) hr) ?_ (by decide) (by decide)
          show Q0 Z B p0 p1 cs fm wN wT wM wB wY wO h0 n0 _ T161.heap T161.vm _
          exact ⟨rfl, N161⟩
        · refine own_goW (T' := s₁) (f' := (mkF m 78 #[.val (.int p0), .val (.int p1), .val (.int zm), .val (.int (-5 : Int32)), .unset] [(.int (-5 : Int32))])) (fun _ k => XS.iloadN X0.here hx rfl (hb hby at_77) rfl k) ?_
          obtain ⟨_, _, ⟨T162, L162, k162, n162⟩, -, X162, hS162, hgr162, ⟨Lc162, hQ162, l162, y162, z162⟩, st162⟩ := callSS X0 hx (y := mn7) hown (mvT hZ (ow8 hw)) (mvT hZ (ow9 hw)) (mvT hZ (ow10 hw)) (mvT hZ (ow11 hw)) (by decide) (own_backS (W := 0) (rm2N l Z a0 hw [] (s.setVm s.vm) (-5 : Int32) cs fm wN wT wM wB wY wO h0 n0 Z0 S_cs hcs S_fm hfm S_N S_T S_M S_B S_Y S_O I1 (fun _ _ q => by rw [hZh]; exact q) hcw hh7 (by decide) (by decide) (by decide +kernel)) hZ (ow11 hw) (ow10 hw) (by decide) (by decide)) (g := (mkF m 78 #[.val (.int p0), .val (.int p1), .val (.int zm), .val (.int (-5 : Int32)), .unset] [(.int (-5 : Int32))])) rfl (by rw [hml]; rfl) (argsL := [(.int (-5 : Int32))]) (rest := []) (lenOf pd3 rfl) rfl (by show 2 * 0 + _ ≤ _; exact Nat.le_of_eq rfl) (hb hby at_78) (fun _ _ => ⟨rfl, e0, (by decide : 0 + 2 ≤ _), (by decide : 0 + 136 ≤ _)⟩)
          dsimp only [Pt.U, Pt.locs, Pt.cells, Pt.slots] at X162 l162 y162 z162 st162 hQ162 hS162 hgr162
          subst l162 y162 z162
          have hM162 := hS162
          obtain ⟨X162, hS, hZ, hown⟩ := rebS hS (by rw [e0]; exact (Nat.le_refl _) : _ ≤ s₁.heap.size) X162 hM162 hgr162 hZ hown
          obtain ⟨rfl, N162q, K162⟩ := hQ162
          have N162 := Fr.app N0 N162q
          have KK162 : Keep h0 T162.heap [] := Keep.trans (Keep.refl h0 []) K162 all0
          refine own_goW (T' := T162) (f' := (mkF m 135 #[.val (.int p0), .val (.int p1), .val (.int zm), .val (.int (-5 : Int32)), .val (.ref wN)] [(.int (-5 : Int32))])) (fun _ k => st162.trans (XS.astore X162.here hx rfl (hb hby at_81) rfl rfl (l' := #[.val (.int p0), .val (.int p1), .val (.int zm), .val (.int (-5 : Int32)), .val (.ref wN)]) rfl (XS.goto X162.here hx rfl (pc0 := 83) (pc' := 134) rfl (hb hby at_83) (by decide) (by decide) (XS.iloadN X162.here hx rfl (hb hby at_134) rfl k)))) ?_
          obtain ⟨_, _, ⟨T163, L163, k163, n163⟩, -, X163, ⟨Lc163, hQ163, l163, y163, z163⟩, st163⟩ := Jvm.LawKit.callS X162 hx (y := mn5) hown (mvT hZ (ow4 hw)) (mvT hZ (ow5 hw)) (mvT hZ (ow2 hw)) (mvT hZ (ow6 hw)) (by decide) (backOf (W := 0) (rm1N l Z a0 hw [] (-5 : Int32) wN wT wM wB wY wO T162.heap n0 (Nat.le_trans Z0 K162.1) (own_sta_keep S_N K162 own_ws0) (own_sta_keep S_T K162 own_ws0) (own_sta_keep S_M K162 own_ws0) (own_sta_keep S_B K162 own_ws0) (own_sta_keep S_Y K162 own_ws0) (own_sta_keep S_O K162 own_ws0) (by decide +kernel)) hZ (ow6 hw) (ow2 hw) (by decide) (by decide)) (g := (mkF m 135 #[.val (.int p0), .val (.int p1), .val (.int zm), .val (.int (-5 : Int32)), .val (.ref wN)] [(.int (-5 : Int32))])) rfl (by rw [hml]; rfl) (argsL := [(.int (-5 : Int32))]) (rest := []) (lenOf pd3 rfl) rfl (by show 2 * 0 + _ ≤ _; exact Nat.le_of_eq rfl) (hb hby at_135) (fun _ _ => ⟨rfl, rfl, (by decide : 2 + 0 ≤ _), (by decide : 136 + 0 ≤ _)⟩)
          dsimp only [Pt.U, Pt.locs, Pt.cells, Pt.slots] at X163 l163 y163 z163 st163 hQ163
          subst l163 y163 z163
          obtain ⟨rfl, N163q, hh163⟩ := hQ163
          have N163 := Fr.app N162 N163q
          refine own_goW (T' := T163) (f' := (mkF m 148 #[.val (.int p0), .val (.int p1), .val (.int zm), .val (.int (-5 : Int32)), .val (.ref wN)] [(.int (1 : Int32))])) (fun _ k => st163 _ (XS.aload X163.here hx rfl (hb hby at_138) rfl rfl (Jvm.RoadKit.acmp (g := (mkF m 140 #[.val (.int p0), .val (.int p1), .val (.int zm), .val (.int (-5 : Int32)), .val (.ref wN)] [(.ref wN), (.ref wN)])) X163 hx rfl rfl rfl (pc0 := 140) (pc' := 143) (same := true) rfl (hb hby at_140) rfl (decide_eq_true rfl) (by decide) (by decide) (XS.iconst X163.here hx rfl (hb hby at_143) (XS.goto X163.here hx rfl (pc0 := 144) (pc' := 148) rfl (hb hby at_144) (by decide) (by decide) k))))) ?_
          refine own_retW X163 hS (by rw [hh163]; exact (Nat.le_refl _)) (v := some (.int (1 : Int32))) (fun h => by rw [Bd.returns] at h; cases h) Bd.notSynchronized (fun fs hr => retN X163 hx (t := .boolean) Bd.returns (by simp) (hb hby at_148) hr) ?_ (by decide) (by decide)
          show Q0 Z B p0 p1 cs fm wN wT wM wB wY wO h0 n0 _ T163.heap T163.vm _
          exact ⟨rfl, N163⟩
        · refine own_goW (T' := s₁) (f' := (mkF m 78 #[.val (.int p0), .val (.int p1), .val (.int zm), .val (.int (-4 : Int32)), .unset] [(.int (-4 : Int32))])) (fun _ k => XS.iloadN X0.here hx rfl (hb hby at_77) rfl k) ?_
          obtain ⟨_, _, ⟨T164, L164, k164, n164⟩, -, X164, hS164, hgr164, ⟨Lc164, hQ164, l164, y164, z164⟩, st164⟩ := callSS X0 hx (y := mn7) hown (mvT hZ (ow8 hw)) (mvT hZ (ow9 hw)) (mvT hZ (ow10 hw)) (mvT hZ (ow11 hw)) (by decide) (own_backS (W := 0) (rm2Y l Z a0 hw [] (s.setVm s.vm) (-4 : Int32) cs fm wN wT wM wB wY wO h0 n0 Z0 S_cs hcs S_fm hfm S_N S_T S_M S_B S_Y S_O I1 (fun _ _ q => by rw [hZh]; exact q) hcw hh7 (by decide) (by decide) (by decide +kernel)) hZ (ow11 hw) (ow10 hw) (by decide) (by decide)) (g := (mkF m 78 #[.val (.int p0), .val (.int p1), .val (.int zm), .val (.int (-4 : Int32)), .unset] [(.int (-4 : Int32))])) rfl (by rw [hml]; rfl) (argsL := [(.int (-4 : Int32))]) (rest := []) (lenOf pd3 rfl) rfl (by show 2 * 0 + _ ≤ _; exact Nat.le_of_eq rfl) (hb hby at_78) (fun _ _ => ⟨rfl, e0, (by decide : 0 + 2 ≤ _), (by decide : 0 + 136 ≤ _)⟩)
          dsimp only [Pt.U, Pt.locs, Pt.cells, Pt.slots] at X164 l164 y164 z164 st164 hQ164 hS164 hgr164
          subst l164 y164 z164
          have hM164 := hS164
          obtain ⟨X164, hS, hZ, hown⟩ := rebS hS (by rw [e0]; exact (Nat.le_refl _) : _ ≤ s₁.heap.size) X164 hM164 hgr164 hZ hown
          obtain ⟨rfl, N164q, K164⟩ := hQ164
          have N164 := Fr.app N0 N164q
          have KK164 : Keep h0 T164.heap [] := Keep.trans (Keep.refl h0 []) K164 all0
          refine own_goW (T' := T164) (f' := (mkF m 135 #[.val (.int p0), .val (.int p1), .val (.int zm), .val (.int (-4 : Int32)), .val (.ref wY)] [(.int (-4 : Int32))])) (fun _ k => st164.trans (XS.astore X164.here hx rfl (hb hby at_81) rfl rfl (l' := #[.val (.int p0), .val (.int p1), .val (.int zm), .val (.int (-4 : Int32)), .val (.ref wY)]) rfl (XS.goto X164.here hx rfl (pc0 := 83) (pc' := 134) rfl (hb hby at_83) (by decide) (by decide) (XS.iloadN X164.here hx rfl (hb hby at_134) rfl k)))) ?_
          obtain ⟨_, _, ⟨T165, L165, k165, n165⟩, -, X165, ⟨Lc165, hQ165, l165, y165, z165⟩, st165⟩ := Jvm.LawKit.callS X164 hx (y := mn5) hown (mvT hZ (ow4 hw)) (mvT hZ (ow5 hw)) (mvT hZ (ow2 hw)) (mvT hZ (ow6 hw)) (by decide) (backOf (W := 0) (rm1Y l Z a0 hw [] (-4 : Int32) wN wT wM wB wY wO T164.heap n0 (Nat.le_trans Z0 K164.1) (own_sta_keep S_N K164 own_ws0) (own_sta_keep S_T K164 own_ws0) (own_sta_keep S_M K164 own_ws0) (own_sta_keep S_B K164 own_ws0) (own_sta_keep S_Y K164 own_ws0) (own_sta_keep S_O K164 own_ws0) (by decide +kernel)) hZ (ow6 hw) (ow2 hw) (by decide) (by decide)) (g := (mkF m 135 #[.val (.int p0), .val (.int p1), .val (.int zm), .val (.int (-4 : Int32)), .val (.ref wY)] [(.int (-4 : Int32))])) rfl (by rw [hml]; rfl) (argsL := [(.int (-4 : Int32))]) (rest := []) (lenOf pd3 rfl) rfl (by show 2 * 0 + _ ≤ _; exact Nat.le_of_eq rfl) (hb hby at_135) (fun _ _ => ⟨rfl, rfl, (by decide : 2 + 0 ≤ _), (by decide : 136 + 0 ≤ _)⟩)
          dsimp only [Pt.U, Pt.locs, Pt.cells, Pt.slots] at X165 l165 y165 z165 st165 hQ165
          subst l165 y165 z165
          obtain ⟨rfl, N165q, hh165⟩ := hQ165
          have N165 := Fr.app N164 N165q
          refine own_goW (T' := T165) (f' := (mkF m 148 #[.val (.int p0), .val (.int p1), .val (.int zm), .val (.int (-4 : Int32)), .val (.ref wY)] [(.int (1 : Int32))])) (fun _ k => st165 _ (XS.aload X165.here hx rfl (hb hby at_138) rfl rfl (Jvm.RoadKit.acmp (g := (mkF m 140 #[.val (.int p0), .val (.int p1), .val (.int zm), .val (.int (-4 : Int32)), .val (.ref wY)] [(.ref wY), (.ref wY)])) X165 hx rfl rfl rfl (pc0 := 140) (pc' := 143) (same := true) rfl (hb hby at_140) rfl (decide_eq_true rfl) (by decide) (by decide) (XS.iconst X165.here hx rfl (hb hby at_143) (XS.goto X165.here hx rfl (pc0 := 144) (pc' := 148) rfl (hb hby at_144) (by decide) (by decide) k))))) ?_
          refine own_retW X165 hS (by rw [hh165]; exact (Nat.le_refl _)) (v := some (.int (1 : Int32))) (fun h => by rw [Bd.returns] at h; cases h) Bd.notSynchronized (fun fs hr => retN X165 hx (t := .boolean) Bd.returns (by simp) (hb hby at_148) hr) ?_ (by decide) (by decide)
          show Q0 Z B p0 p1 cs fm wN wT wM wB wY wO h0 n0 _ T165.heap T165.vm _
          exact ⟨rfl, N165⟩
        · refine own_goW (T' := s₁) (f' := (mkF m 78 #[.val (.int p0), .val (.int p1), .val (.int zm), .val (.int (-3 : Int32)), .unset] [(.int (-3 : Int32))])) (fun _ k => XS.iloadN X0.here hx rfl (hb hby at_77) rfl k) ?_
          obtain ⟨_, _, ⟨T166, L166, k166, n166⟩, -, X166, hS166, hgr166, ⟨Lc166, hQ166, l166, y166, z166⟩, st166⟩ := callSS X0 hx (y := mn7) hown (mvT hZ (ow8 hw)) (mvT hZ (ow9 hw)) (mvT hZ (ow10 hw)) (mvT hZ (ow11 hw)) (by decide) (own_backS (W := 0) (rm2Y l Z a0 hw [] (s.setVm s.vm) (-3 : Int32) cs fm wN wT wM wB wY wO h0 n0 Z0 S_cs hcs S_fm hfm S_N S_T S_M S_B S_Y S_O I1 (fun _ _ q => by rw [hZh]; exact q) hcw hh7 (by decide) (by decide) (by decide +kernel)) hZ (ow11 hw) (ow10 hw) (by decide) (by decide)) (g := (mkF m 78 #[.val (.int p0), .val (.int p1), .val (.int zm), .val (.int (-3 : Int32)), .unset] [(.int (-3 : Int32))])) rfl (by rw [hml]; rfl) (argsL := [(.int (-3 : Int32))]) (rest := []) (lenOf pd3 rfl) rfl (by show 2 * 0 + _ ≤ _; exact Nat.le_of_eq rfl) (hb hby at_78) (fun _ _ => ⟨rfl, e0, (by decide : 0 + 2 ≤ _), (by decide : 0 + 136 ≤ _)⟩)
          dsimp only [Pt.U, Pt.locs, Pt.cells, Pt.slots] at X166 l166 y166 z166 st166 hQ166 hS166 hgr166
          subst l166 y166 z166
          have hM166 := hS166
          obtain ⟨X166, hS, hZ, hown⟩ := rebS hS (by rw [e0]; exact (Nat.le_refl _) : _ ≤ s₁.heap.size) X166 hM166 hgr166 hZ hown
          obtain ⟨rfl, N166q, K166⟩ := hQ166
          have N166 := Fr.app N0 N166q
          have KK166 : Keep h0 T166.heap [] := Keep.trans (Keep.refl h0 []) K166 all0
          refine own_goW (T' := T166) (f' := (mkF m 135 #[.val (.int p0), .val (.int p1), .val (.int zm), .val (.int (-3 : Int32)), .val (.ref wY)] [(.int (-3 : Int32))])) (fun _ k => st166.trans (XS.astore X166.here hx rfl (hb hby at_81) rfl rfl (l' := #[.val (.int p0), .val (.int p1), .val (.int zm), .val (.int (-3 : Int32)), .val (.ref wY)]) rfl (XS.goto X166.here hx rfl (pc0 := 83) (pc' := 134) rfl (hb hby at_83) (by decide) (by decide) (XS.iloadN X166.here hx rfl (hb hby at_134) rfl k)))) ?_
          obtain ⟨_, _, ⟨T167, L167, k167, n167⟩, -, X167, ⟨Lc167, hQ167, l167, y167, z167⟩, st167⟩ := Jvm.LawKit.callS X166 hx (y := mn5) hown (mvT hZ (ow4 hw)) (mvT hZ (ow5 hw)) (mvT hZ (ow2 hw)) (mvT hZ (ow6 hw)) (by decide) (backOf (W := 0) (rm1Y l Z a0 hw [] (-3 : Int32) wN wT wM wB wY wO T166.heap n0 (Nat.le_trans Z0 K166.1) (own_sta_keep S_N K166 own_ws0) (own_sta_keep S_T K166 own_ws0) (own_sta_keep S_M K166 own_ws0) (own_sta_keep S_B K166 own_ws0) (own_sta_keep S_Y K166 own_ws0) (own_sta_keep S_O K166 own_ws0) (by decide +kernel)) hZ (ow6 hw) (ow2 hw) (by decide) (by decide)) (g := (mkF m 135 #[.val (.int p0), .val (.int p1), .val (.int zm), .val (.int (-3 : Int32)), .val (.ref wY)] [(.int (-3 : Int32))])) rfl (by rw [hml]; rfl) (argsL := [(.int (-3 : Int32))]) (rest := []) (lenOf pd3 rfl) rfl (by show 2 * 0 + _ ≤ _; exact Nat.le_of_eq rfl) (hb hby at_135) (fun _ _ => ⟨rfl, rfl, (by decide : 2 + 0 ≤ _), (by decide : 136 + 0 ≤ _)⟩)
          dsimp only [Pt.U, Pt.locs, Pt.cells, Pt.slots] at X167 l167 y167 z167 st167 hQ167
          subst l167 y167 z167
          obtain ⟨rfl, N167q, hh167⟩ := hQ167
          have N167 := Fr.app N166 N167q
          refine own_goW (T' := T167) (f' := (mkF m 148 #[.val (.int p0), .val (.int p1), .val (.int zm), .val (.int (-3 : Int32)), .val (.ref wY)] [(.int (1 : Int32))])) (fun _ k => st167 _ (XS.aload X167.here hx rfl (hb hby at_138) rfl rfl (Jvm.RoadKit.acmp (g := (mkF m 140 #[.val (.int p0), .val (.int p1), .val (.int zm), .val (.int (-3 : Int32)), .val (.ref wY)] [(.ref wY), (.ref wY)])) X167 hx rfl rfl rfl (pc0 := 140) (pc' := 143) (same := true) rfl (hb hby at_140) rfl (decide_eq_true rfl) (by decide) (by decide) (XS.iconst X167.here hx rfl (hb hby at_143) (XS.goto X167.here hx rfl (pc0 := 144) (pc' := 148) rfl (hb hby at_144) (by decide) (by decide) k))))) ?_
          refine own_retW X167 hS (by rw [hh167]; exact (Nat.le_refl _)) (v := some (.int (1 : Int32))) (fun h => by rw [Bd.returns] at h; cases h) Bd.notSynchronized (fun fs hr => retN X167 hx (t := .boolean) Bd.returns (by simp) (hb hby at_148) hr) ?_ (by decide) (by decide)
          show Q0 Z B p0 p1 cs fm wN wT wM wB wY wO h0 n0 _ T167.heap T167.vm _
          exact ⟨rfl, N167⟩
        · refine own_goW (T' := s₁) (f' := (mkF m 78 #[.val (.int p0), .val (.int p1), .val (.int zm), .val (.int (-2 : Int32)), .unset] [(.int (-2 : Int32))])) (fun _ k => XS.iloadN X0.here hx rfl (hb hby at_77) rfl k) ?_
          obtain ⟨_, _, ⟨T168, L168, k168, n168⟩, -, X168, hS168, hgr168, ⟨Lc168, hQ168, l168, y168, z168⟩, st168⟩ := callSS X0 hx (y := mn7) hown (mvT hZ (ow8 hw)) (mvT hZ (ow9 hw)) (mvT hZ (ow10 hw)) (mvT hZ (ow11 hw)) (by decide) (own_backS (W := 0) (rm2Y l Z a0 hw [] (s.setVm s.vm) (-2 : Int32) cs fm wN wT wM wB wY wO h0 n0 Z0 S_cs hcs S_fm hfm S_N S_T S_M S_B S_Y S_O I1 (fun _ _ q => by rw [hZh]; exact q) hcw hh7 (by decide) (by decide) (by decide +kernel)) hZ (ow11 hw) (ow10 hw) (by decide) (by decide)) (g := (mkF m 78 #[.val (.int p0), .val (.int p1), .val (.int zm), .val (.int (-2 : Int32)), .unset] [(.int (-2 : Int32))])) rfl (by rw [hml]; rfl) (argsL := [(.int (-2 : Int32))]) (rest := []) (lenOf pd3 rfl) rfl (by show 2 * 0 + _ ≤ _; exact Nat.le_of_eq rfl) (hb hby at_78) (fun _ _ => ⟨rfl, e0, (by decide : 0 + 2 ≤ _), (by decide : 0 + 136 ≤ _)⟩)
          dsimp only [Pt.U, Pt.locs, Pt.cells, Pt.slots] at X168 l168 y168 z168 st168 hQ168 hS168 hgr168
          subst l168 y168 z168
          have hM168 := hS168
          obtain ⟨X168, hS, hZ, hown⟩ := rebS hS (by rw [e0]; exact (Nat.le_refl _) : _ ≤ s₁.heap.size) X168 hM168 hgr168 hZ hown
          obtain ⟨rfl, N168q, K168⟩ := hQ168
          have N168 := Fr.app N0 N168q
          have KK168 : Keep h0 T168.heap [] := Keep.trans (Keep.refl h0 []) K168 all0
          refine own_goW (T' := T168) (f' := (mkF m 135 #[.val (.int p0), .val (.int p1), .val (.int zm), .val (.int (-2 : Int32)), .val (.ref wY)] [(.int (-2 : Int32))])) (fun _ k => st168.trans (XS.astore X168.here hx rfl (hb hby at_81) rfl rfl (l' := #[.val (.int p0), .val (.int p1), .val (.int zm), .val (.int (-2 : Int32)), .val (.ref wY)]) rfl (XS.goto X168.here hx rfl (pc0 := 83) (pc' := 134) rfl (hb hby at_83) (by decide) (by decide) (XS.iloadN X168.here hx rfl (hb hby at_134) rfl k)))) ?_
          obtain ⟨_, _, ⟨T169, L169, k169, n169⟩, -, X169, ⟨Lc169, hQ169, l169, y169, z169⟩, st169⟩ := Jvm.LawKit.callS X168 hx (y := mn5) hown (mvT hZ (ow4 hw)) (mvT hZ (ow5 hw)) (mvT hZ (ow2 hw)) (mvT hZ (ow6 hw)) (by decide) (backOf (W := 0) (rm1Y l Z a0 hw [] (-2 : Int32) wN wT wM wB wY wO T168.heap n0 (Nat.le_trans Z0 K168.1) (own_sta_keep S_N K168 own_ws0) (own_sta_keep S_T K168 own_ws0) (own_sta_keep S_M K168 own_ws0) (own_sta_keep S_B K168 own_ws0) (own_sta_keep S_Y K168 own_ws0) (own_sta_keep S_O K168 own_ws0) (by decide +kernel)) hZ (ow6 hw) (ow2 hw) (by decide) (by decide)) (g := (mkF m 135 #[.val (.int p0), .val (.int p1), .val (.int zm), .val (.int (-2 : Int32)), .val (.ref wY)] [(.int (-2 : Int32))])) rfl (by rw [hml]; rfl) (argsL := [(.int (-2 : Int32))]) (rest := []) (lenOf pd3 rfl) rfl (by show 2 * 0 + _ ≤ _; exact Nat.le_of_eq rfl) (hb hby at_135) (fun _ _ => ⟨rfl, rfl, (by decide : 2 + 0 ≤ _), (by decide : 136 + 0 ≤ _)⟩)
          dsimp only [Pt.U, Pt.locs, Pt.cells, Pt.slots] at X169 l169 y169 z169 st169 hQ169
          subst l169 y169 z169
          obtain ⟨rfl, N169q, hh169⟩ := hQ169
          have N169 := Fr.app N168 N169q
          refine own_goW (T' := T169) (f' := (mkF m 148 #[.val (.int p0), .val (.int p1), .val (.int zm), .val (.int (-2 : Int32)), .val (.ref wY)] [(.int (1 : Int32))])) (fun _ k => st169 _ (XS.aload X169.here hx rfl (hb hby at_138) rfl rfl (Jvm.RoadKit.acmp (g := (mkF m 140 #[.val (.int p0), .val (.int p1), .val (.int zm), .val (.int (-2 : Int32)), .val (.ref wY)] [(.ref wY), (.ref wY)])) X169 hx rfl rfl rfl (pc0 := 140) (pc' := 143) (same := true) rfl (hb hby at_140) rfl (decide_eq_true rfl) (by decide) (by decide) (XS.iconst X169.here hx rfl (hb hby at_143) (XS.goto X169.here hx rfl (pc0 := 144) (pc' := 148) rfl (hb hby at_144) (by decide) (by decide) k))))) ?_
          refine own_retW X169 hS (by rw [hh169]; exact (Nat.le_refl _)) (v := some (.int (1 : Int32))) (fun h => by rw [Bd.returns] at h; cases h) Bd.notSynchronized (fun fs hr => retN X169 hx (t := .boolean) Bd.returns (by simp) (hb hby at_148) hr) ?_ (by decide) (by decide)
          show Q0 Z B p0 p1 cs fm wN wT wM wB wY wO h0 n0 _ T169.heap T169.vm _
          exact ⟨rfl, N169⟩
        · refine own_goW (T' := s₁) (f' := (mkF m 78 #[.val (.int p0), .val (.int p1), .val (.int zm), .val (.int (-1 : Int32)), .unset] [(.int (-1 : Int32))])) (fun _ k => XS.iloadN X0.here hx rfl (hb hby at_77) rfl k) ?_
          obtain ⟨_, _, ⟨T170, L170, k170, n170⟩, -, X170, hS170, hgr170, ⟨Lc170, hQ170, l170, y170, z170⟩, st170⟩ := callSS X0 hx (y := mn7) hown (mvT hZ (ow8 hw)) (mvT hZ (ow9 hw)) (mvT hZ (ow10 hw)) (mvT hZ (ow11 hw)) (by decide) (own_backS (W := 0) (rm2T l Z a0 hw [] (s.setVm s.vm) (-1 : Int32) cs fm wN wT wM wB wY wO h0 n0 Z0 S_cs hcs S_fm hfm S_N S_T S_M S_B S_Y S_O I1 (fun _ _ q => by rw [hZh]; exact q) hcw hh7 (by decide) (by decide) (by decide +kernel)) hZ (ow11 hw) (ow10 hw) (by decide) (by decide)) (g := (mkF m 78 #[.val (.int p0), .val (.int p1), .val (.int zm), .val (.int (-1 : Int32)), .unset] [(.int (-1 : Int32))])) rfl (by rw [hml]; rfl) (argsL := [(.int (-1 : Int32))]) (rest := []) (lenOf pd3 rfl) rfl (by show 2 * 0 + _ ≤ _; exact Nat.le_of_eq rfl) (hb hby at_78) (fun _ _ => ⟨rfl, e0, (by decide : 0 + 2 ≤ _), (by decide : 0 + 136 ≤ _)⟩)
          dsimp only [Pt.U, Pt.locs, Pt.cells, Pt.slots] at X170 l170 y170 z170 st170 hQ170 hS170 hgr170
          subst l170 y170 z170
          have hM170 := hS170
          obtain ⟨X170, hS, hZ, hown⟩ := rebS hS (by rw [e0]; exact (Nat.le_refl _) : _ ≤ s₁.heap.size) X170 hM170 hgr170 hZ hown
          obtain ⟨rfl, N170q, K170⟩ := hQ170
          have N170 := Fr.app N0 N170q
          have KK170 : Keep h0 T170.heap [] := Keep.trans (Keep.refl h0 []) K170 all0
          refine own_goW (T' := T170) (f' := (mkF m 135 #[.val (.int p0), .val (.int p1), .val (.int zm), .val (.int (-1 : Int32)), .val (.ref wT)] [(.int (-1 : Int32))])) (fun _ k => st170.trans (XS.astore X170.here hx rfl (hb hby at_81) rfl rfl (l' := #[.val (.int p0), .val (.int p1), .val (.int zm), .val (.int (-1 : Int32)), .val (.ref wT)]) rfl (XS.goto X170.here hx rfl (pc0 := 83) (pc' := 134) rfl (hb hby at_83) (by decide) (by decide) (XS.iloadN X170.here hx rfl (hb hby at_134) rfl k)))) ?_
          obtain ⟨_, _, ⟨T171, L171, k171, n171⟩, -, X171, ⟨Lc171, hQ171, l171, y171, z171⟩, st171⟩ := Jvm.LawKit.callS X170 hx (y := mn5) hown (mvT hZ (ow4 hw)) (mvT hZ (ow5 hw)) (mvT hZ (ow2 hw)) (mvT hZ (ow6 hw)) (by decide) (backOf (W := 0) (rm1T l Z a0 hw [] (-1 : Int32) wN wT wM wB wY wO T170.heap n0 (Nat.le_trans Z0 K170.1) (own_sta_keep S_N K170 own_ws0) (own_sta_keep S_T K170 own_ws0) (own_sta_keep S_M K170 own_ws0) (own_sta_keep S_B K170 own_ws0) (own_sta_keep S_Y K170 own_ws0) (own_sta_keep S_O K170 own_ws0) (by decide +kernel)) hZ (ow6 hw) (ow2 hw) (by decide) (by decide)) (g := (mkF m 135 #[.val (.int p0), .val (.int p1), .val (.int zm), .val (.int (-1 : Int32)), .val (.ref wT)] [(.int (-1 : Int32))])) rfl (by rw [hml]; rfl) (argsL := [(.int (-1 : Int32))]) (rest := []) (lenOf pd3 rfl) rfl (by show 2 * 0 + _ ≤ _; exact Nat.le_of_eq rfl) (hb hby at_135) (fun _ _ => ⟨rfl, rfl, (by decide : 2 + 0 ≤ _), (by decide : 136 + 0 ≤ _)⟩)
          dsimp only [Pt.U, Pt.locs, Pt.cells, Pt.slots] at X171 l171 y171 z171 st171 hQ171
          subst l171 y171 z171
          obtain ⟨rfl, N171q, hh171⟩ := hQ171
          have N171 := Fr.app N170 N171q
          refine own_goW (T' := T171) (f' := (mkF m 148 #[.val (.int p0), .val (.int p1), .val (.int zm), .val (.int (-1 : Int32)), .val (.ref wT)] [(.int (1 : Int32))])) (fun _ k => st171 _ (XS.aload X171.here hx rfl (hb hby at_138) rfl rfl (Jvm.RoadKit.acmp (g := (mkF m 140 #[.val (.int p0), .val (.int p1), .val (.int zm), .val (.int (-1 : Int32)), .val (.ref wT)] [(.ref wT), (.ref wT)])) X171 hx rfl rfl rfl (pc0 := 140) (pc' := 143) (same := true) rfl (hb hby at_140) rfl (decide_eq_true rfl) (by decide) (by decide) (XS.iconst X171.here hx rfl (hb hby at_143) (XS.goto X171.here hx rfl (pc0 := 144) (pc' := 148) rfl (hb hby at_144) (by decide) (by decide) k))))) ?_
          refine own_retW X171 hS (by rw [hh171]; exact (Nat.le_refl _)) (v := some (.int (1 : Int32))) (fun h => by rw [Bd.returns] at h; cases h) Bd.notSynchronized (fun fs hr => retN X171 hx (t := .boolean) Bd.returns (by simp) (hb hby at_148) hr) ?_ (by decide) (by decide)
          show Q0 Z B p0 p1 cs fm wN wT wM wB wY wO h0 n0 _ T171.heap T171.vm _
          exact ⟨rfl, N171⟩
        · refine own_goW (T' := s₁) (f' := (mkF m 78 #[.val (.int p0), .val (.int p1), .val (.int zm), .val (.int (0 : Int32)), .unset] [(.int (0 : Int32))])) (fun _ k => XS.iloadN X0.here hx rfl (hb hby at_77) rfl k) ?_
          obtain ⟨_, _, ⟨T172, L172, k172, n172⟩, -, X172, hS172, hgr172, ⟨Lc172, hQ172, l172, y172, z172⟩, st172⟩ := callSS X0 hx (y := mn7) hown (mvT hZ (ow8 hw)) (mvT hZ (ow9 hw)) (mvT hZ (ow10 hw)) (mvT hZ (ow11 hw)) (by decide) (own_backS (W := 0) (rm2O l Z a0 hw [] (s.setVm s.vm) (0 : Int32) cs fm wN wT wM wB wY wO h0 n0 Z0 S_cs hcs S_fm hfm S_N S_T S_M S_B S_Y S_O I1 (fun _ _ q => by rw [hZh]; exact q) hcw hh7 (by decide) (by decide) (by decide +kernel)) hZ (ow11 hw) (ow10 hw) (by decide) (by decide)) (g := (mkF m 78 #[.val (.int p0), .val (.int p1), .val (.int zm), .val (.int (0 : Int32)), .unset] [(.int (0 : Int32))])) rfl (by rw [hml]; rfl) (argsL := [(.int (0 : Int32))]) (rest := []) (lenOf pd3 rfl) rfl (by show 2 * 0 + _ ≤ _; exact Nat.le_of_eq rfl) (hb hby at_78) (fun _ _ => ⟨rfl, e0, (by decide : 0 + 2 ≤ _), (by decide : 0 + 136 ≤ _)⟩)
          dsimp only [Pt.U, Pt.locs, Pt.cells, Pt.slots] at X172 l172 y172 z172 st172 hQ172 hS172 hgr172
          subst l172 y172 z172
          have hM172 := hS172
          obtain ⟨X172, hS, hZ, hown⟩ := rebS hS (by rw [e0]; exact (Nat.le_refl _) : _ ≤ s₁.heap.size) X172 hM172 hgr172 hZ hown
          obtain ⟨rfl, N172q, K172⟩ := hQ172
          have N172 := Fr.app N0 N172q
          have KK172 : Keep h0 T172.heap [] := Keep.trans (Keep.refl h0 []) K172 all0
          refine own_goW (T' := T172) (f' := (mkF m 135 #[.val (.int p0), .val (.int p1), .val (.int zm), .val (.int (0 : Int32)), .val (.ref wO)] [(.int (0 : Int32))])) (fun _ k => st172.trans (XS.astore X172.here hx rfl (hb hby at_81) rfl rfl (l' := #[.val (.int p0), .val (.int p1), .val (.int zm), .val (.int (0 : Int32)), .val (.ref wO)]) rfl (XS.goto X172.here hx rfl (pc0 := 83) (pc' := 134) rfl (hb hby at_83) (by decide) (by decide) (XS.iloadN X172.here hx rfl (hb hby at_134) rfl k)))) ?_
          obtain ⟨_, _, ⟨T173, L173, k173, n173⟩, -, X173, ⟨Lc173, hQ173, l173, y173, z173⟩, st173⟩ := Jvm.LawKit.callS X172 hx (y := mn5) hown (mvT hZ (ow4 hw)) (mvT hZ (ow5 hw)) (mvT hZ (ow2 hw)) (mvT hZ (ow6 hw)) (by decide) (backOf (W := 0) (rm1O l Z a0 hw [] (0 : Int32) wN wT wM wB wY wO T172.heap n0 (Nat.le_trans Z0 K172.1) (own_sta_keep S_N K172 own_ws0) (own_sta_keep S_T K172 own_ws0) (own_sta_keep S_M K172 own_ws0) (own_sta_keep S_B K172 own_ws0) (own_sta_keep S_Y K172 own_ws0) (own_sta_keep S_O K172 own_ws0) (by decide +kernel)) hZ (ow6 hw) (ow2 hw) (by decide) (by decide)) (g := (mkF m 135 #[.val (.int p0), .val (.int p1), .val (.int zm), .val (.int (0 : Int32)), .val (.ref wO)] [(.int (0 : Int32))])) rfl (by rw [hml]; rfl) (argsL := [(.int (0 : Int32))]) (rest := []) (lenOf pd3 rfl) rfl (by show 2 * 0 + _ ≤ _; exact Nat.le_of_eq rfl) (hb hby at_135) (fun _ _ => ⟨rfl, rfl, (by decide : 2 + 0 ≤ _), (by decide : 136 + 0 ≤ _)⟩)
          dsimp only [Pt.U, Pt.locs, Pt.cells, Pt.slots] at X173 l173 y173 z173 st173 hQ173
          subst l173 y173 z173
          obtain ⟨rfl, N173q, hh173⟩ := hQ173
          have N173 := Fr.app N172 N173q
          refine own_goW (T' := T173) (f' := (mkF m 148 #[.val (.int p0), .val (.int p1), .val (.int zm), .val (.int (0 : Int32)), .val (.ref wO)] [(.int (1 : Int32))])) (fun _ k => st173 _ (XS.aload X173.here hx rfl (hb hby at_138) rfl rfl (Jvm.RoadKit.acmp (g := (mkF m 140 #[.val (.int p0), .val (.int p1), .val (.int zm), .val (.int (0 : Int32)), .val (.ref wO)] [(.ref wO), (.ref wO)])) X173 hx rfl rfl rfl (pc0 := 140) (pc' := 143) (same := true) rfl (hb hby at_140) rfl (decide_eq_true rfl) (by decide) (by decide) (XS.iconst X173.here hx rfl (hb hby at_143) (XS.goto X173.here hx rfl (pc0 := 144) (pc' := 148) rfl (hb hby at_144) (by decide) (by decide) k))))) ?_
          refine own_retW X173 hS (by rw [hh173]; exact (Nat.le_refl _)) (v := some (.int (1 : Int32))) (fun h => by rw [Bd.returns] at h; cases h) Bd.notSynchronized (fun fs hr => retN X173 hx (t := .boolean) Bd.returns (by simp) (hb hby at_148) hr) ?_ (by decide) (by decide)
          show Q0 Z B p0 p1 cs fm wN wT wM wB wY wO h0 n0 _ T173.heap T173.vm _
          exact ⟨rfl, N173⟩
        · refine own_goW (T' := s₁) (f' := (mkF m 78 #[.val (.int p0), .val (.int p1), .val (.int zm), .val (.int (1 : Int32)), .unset] [(.int (1 : Int32))])) (fun _ k => XS.iloadN X0.here hx rfl (hb hby at_77) rfl k) ?_
          obtain ⟨_, _, ⟨T174, L174, k174, n174⟩, -, X174, hS174, hgr174, ⟨Lc174, hQ174, l174, y174, z174⟩, st174⟩ := callSS X0 hx (y := mn7) hown (mvT hZ (ow8 hw)) (mvT hZ (ow9 hw)) (mvT hZ (ow10 hw)) (mvT hZ (ow11 hw)) (by decide) (own_backS (W := 0) (rm2T l Z a0 hw [] (s.setVm s.vm) (1 : Int32) cs fm wN wT wM wB wY wO h0 n0 Z0 S_cs hcs S_fm hfm S_N S_T S_M S_B S_Y S_O I1 (fun _ _ q => by rw [hZh]; exact q) hcw hh7 (by decide) (by decide) (by decide +kernel)) hZ (ow11 hw) (ow10 hw) (by decide) (by decide)) (g := (mkF m 78 #[.val (.int p0), .val (.int p1), .val (.int zm), .val (.int (1 : Int32)), .unset] [(.int (1 : Int32))])) rfl (by rw [hml]; rfl) (argsL := [(.int (1 : Int32))]) (rest := []) (lenOf pd3 rfl) rfl (by show 2 * 0 + _ ≤ _; exact Nat.le_of_eq rfl) (hb hby at_78) (fun _ _ => ⟨rfl, e0, (by decide : 0 + 2 ≤ _), (by decide : 0 + 136 ≤ _)⟩)
          dsimp only [Pt.U, Pt.locs, Pt.cells, Pt.slots] at X174 l174 y174 z174 st174 hQ174 hS174 hgr174
          subst l174 y174 z174
          have hM174 := hS174
          obtain ⟨X174, hS, hZ, hown⟩ := rebS hS (by rw [e0]; exact (Nat.le_refl _) : _ ≤ s₁.heap.size) X174 hM174 hgr174 hZ hown
          obtain ⟨rfl, N174q, K174⟩ := hQ174
          have N174 := Fr.app N0 N174q
          have KK174 : Keep h0 T174.heap [] := Keep.trans (Keep.refl h0 []) K174 all0
          refine own_goW (T' := T174) (f' := (mkF m 135 #[.val (.int p0), .val (.int p1), .val (.int zm), .val (.int (1 : Int32)), .val (.ref wT)] [(.int (1 : Int32))])) (fun _ k => st174.trans (XS.astore X174.here hx rfl (hb hby at_81) rfl rfl (l' := #[.val (.int p0), .val (.int p1), .val (.int zm), .val (.int (1 : Int32)), .val (.ref wT)]) rfl (XS.goto X174.here hx rfl (pc0 := 83) (pc' := 134) rfl (hb hby at_83) (by decide) (by decide) (XS.iloadN X174.here hx rfl (hb hby at_134) rfl k)))) ?_
          obtain ⟨_, _, ⟨T175, L175, k175, n175⟩, -, X175, ⟨Lc175, hQ175, l175, y175, z175⟩, st175⟩ := Jvm.LawKit.callS X174 hx (y := mn5) hown (mvT hZ (ow4 hw)) (mvT hZ (ow5 hw)) (mvT hZ (ow2 hw)) (mvT hZ (ow6 hw)) (by decide) (backOf (W := 0) (rm1T l Z a0 hw [] (1 : Int32) wN wT wM wB wY wO T174.heap n0 (Nat.le_trans Z0 K174.1) (own_sta_keep S_N K174 own_ws0) (own_sta_keep S_T K174 own_ws0) (own_sta_keep S_M K174 own_ws0) (own_sta_keep S_B K174 own_ws0) (own_sta_keep S_Y K174 own_ws0) (own_sta_keep S_O K174 own_ws0) (by decide +kernel)) hZ (ow6 hw) (ow2 hw) (by decide) (by decide)) (g := (mkF m 135 #[.val (.int p0), .val (.int p1), .val (.int zm), .val (.int (1 : Int32)), .val (.ref wT)] [(.int (1 : Int32))])) rfl (by rw [hml]; rfl) (argsL := [(.int (1 : Int32))]) (rest := []) (lenOf pd3 rfl) rfl (by show 2 * 0 + _ ≤ _; exact Nat.le_of_eq rfl) (hb hby at_135) (fun _ _ => ⟨rfl, rfl, (by decide : 2 + 0 ≤ _), (by decide : 136 + 0 ≤ _)⟩)
          dsimp only [Pt.U, Pt.locs, Pt.cells, Pt.slots] at X175 l175 y175 z175 st175 hQ175
          subst l175 y175 z175
          obtain ⟨rfl, N175q, hh175⟩ := hQ175
          have N175 := Fr.app N174 N175q
          refine own_goW (T' := T175) (f' := (mkF m 148 #[.val (.int p0), .val (.int p1), .val (.int zm), .val (.int (1 : Int32)), .val (.ref wT)] [(.int (1 : Int32))])) (fun _ k => st175 _ (XS.aload X175.here hx rfl (hb hby at_138) rfl rfl (Jvm.RoadKit.acmp (g := (mkF m 140 #[.val (.int p0), .val (.int p1), .val (.int zm), .val (.int (1 : Int32)), .val (.ref wT)] [(.ref wT), (.ref wT)])) X175 hx rfl rfl rfl (pc0 := 140) (pc' := 143) (same := true) rfl (hb hby at_140) rfl (decide_eq_true rfl) (by decide) (by decide) (XS.iconst X175.here hx rfl (hb hby at_143) (XS.goto X175.here hx rfl (pc0 := 144) (pc' := 148) rfl (hb hby at_144) (by decide) (by decide) k))))) ?_
          refine own_retW X175 hS (by rw [hh175]; exact (Nat.le_refl _)) (v := some (.int (1 : Int32))) (fun h => by rw [Bd.returns] at h; cases h) Bd.notSynchronized (fun fs hr => retN X175 hx (t := .boolean) Bd.returns (by simp) (hb hby at_148) hr) ?_ (by decide) (by decide)
          show Q0 Z B p0 p1 cs fm wN wT wM wB wY wO h0 n0 _ T175.heap T175.vm _
          exact ⟨rfl, N175⟩
        · refine own_goW (T' := s₁) (f' := (mkF m 78 #[.val (.int p0), .val (.int p1), .val (.int zm), .val (.int (2 : Int32)), .unset] [(.int (2 : Int32))])) (fun _ k => XS.iloadN X0.here hx rfl (hb hby at_77) rfl k) ?_
          obtain ⟨_, _, ⟨T176, L176, k176, n176⟩, -, X176, hS176, hgr176, ⟨Lc176, hQ176, l176, y176, z176⟩, st176⟩ := callSS X0 hx (y := mn7) hown (mvT hZ (ow8 hw)) (mvT hZ (ow9 hw)) (mvT hZ (ow10 hw)) (mvT hZ (ow11 hw)) (by decide) (own_backS (W := 0) (rm2N l Z a0 hw [] (s.setVm s.vm) (2 : Int32) cs fm wN wT wM wB wY wO h0 n0 Z0 S_cs hcs S_fm hfm S_N S_T S_M S_B S_Y S_O I1 (fun _ _ q => by rw [hZh]; exact q) hcw hh7 (by decide) (by decide) (by decide +kernel)) hZ (ow11 hw) (ow10 hw) (by decide) (by decide)) (g := (mkF m 78 #[.val (.int p0), .val (.int p1), .val (.int zm), .val (.int (2 : Int32)), .unset] [(.int (2 : Int32))])) rfl (by rw [hml]; rfl) (argsL := [(.int (2 : Int32))]) (rest := []) (lenOf pd3 rfl) rfl (by show 2 * 0 + _ ≤ _; exact Nat.le_of_eq rfl) (hb hby at_78) (fun _ _ => ⟨rfl, e0, (by decide : 0 + 2 ≤ _), (by decide : 0 + 136 ≤ _)⟩)
          dsimp only [Pt.U, Pt.locs, Pt.cells, Pt.slots] at X176 l176 y176 z176 st176 hQ176 hS176 hgr176
          subst l176 y176 z176
          have hM176 := hS176
          obtain ⟨X176, hS, hZ, hown⟩ := rebS hS (by rw [e0]; exact (Nat.le_refl _) : _ ≤ s₁.heap.size) X176 hM176 hgr176 hZ hown
          obtain ⟨rfl, N176q, K176⟩ := hQ176
          have N176 := Fr.app N0 N176q
          have KK176 : Keep h0 T176.heap [] := Keep.trans (Keep.refl h0 []) K176 all0
          refine own_goW (T' := T176) (f' := (mkF m 135 #[.val (.int p0), .val (.int p1), .val (.int zm), .val (.int (2 : Int32)), .val (.ref wN)] [(.int (2 : Int32))])) (fun _ k => st176.trans (XS.astore X176.here hx rfl (hb hby at_81) rfl rfl (l' := #[.val (.int p0), .val (.int p1), .val (.int zm), .val (.int (2 : Int32)), .val (.ref wN)]) rfl (XS.goto X176.here hx rfl (pc0 := 83) (pc' := 134) rfl (hb hby at_83) (by decide) (by decide) (XS.iloadN X176.here hx rfl (hb hby at_134) rfl k)))) ?_
          obtain ⟨_, _, ⟨T177, L177, k177, n177⟩, -, X177, ⟨Lc177, hQ177, l177, y177, z177⟩, st177⟩ := Jvm.LawKit.callS X176 hx (y := mn5) hown (mvT hZ (ow4 hw)) (mvT hZ (ow5 hw)) (mvT hZ (ow2 hw)) (mvT hZ (ow6 hw)) (by decide) (backOf (W := 0) (rm1N l Z a0 hw [] (2 : Int32) wN wT wM wB wY wO T176.heap n0 (Nat.le_trans Z0 K176.1) (own_sta_keep S_N K176 own_ws0) (own_sta_keep S_T K176 own_ws0) (own_sta_keep S_M K176 own_ws0) (own_sta_keep S_B K176 own_ws0) (own_sta_keep S_Y K176 own_ws0) (own_sta_keep S_O K176 own_ws0) (by decide +kernel)) hZ (ow6 hw) (ow2 hw) (by decide) (by decide)) (g := (mkF m 135 #[.val (.int p0), .val (.int p1), .val (.int zm), .val (.int (2 : Int32)), .val (.ref wN)] [(.int (2 : Int32))])) rfl (by rw [hml]; rfl) (argsL := [(.int (2 : Int32))]) (rest := []) (lenOf pd3 rfl) rfl (by show 2 * 0 + _ ≤ _; exact Nat.le_of_eq rfl) (hb hby at_135) (fun _ _ => ⟨rfl, rfl, (by decide : 2 + 0 ≤ _), (by decide : 136 + 0 ≤ _)⟩)
          dsimp only [Pt.U, Pt.locs, Pt.cells, Pt.slots] at X177 l177 y177 z177 st177 hQ177
          subst l177 y177 z177
          obtain ⟨rfl, N177q, hh177⟩ := hQ177
          have N177 := Fr.app N176 N177q
          refine own_goW (T' := T177) (f' := (mkF m 148 #[.val (.int p0), .val (.int p1), .val (.int zm), .val (.int (2 : Int32)), .val (.ref wN)] [(.int (1 : Int32))])) (fun _ k => st177 _ (XS.aload X177.here hx rfl (hb hby at_138) rfl rfl (Jvm.RoadKit.acmp (g := (mkF m 140 #[.val (.int p0), .val (.int p1), .val (.int zm), .val (.int (2 : Int32)), .val (.ref wN)] [(.ref wN), (.ref wN)])) X177 hx rfl rfl rfl (pc0 := 140) (pc' := 143) (same := true) rfl (hb hby at_140) rfl (decide_eq_true rfl) (by decide) (by decide) (XS.iconst X177.here hx rfl (hb hby at_143) (XS.goto X177.here hx rfl (pc0 := 144) (pc' := 148) rfl (hb hby at_144) (by decide) (by decide) k))))) ?_
          refine own_retW X177 hS (by rw [hh177]; exact (Nat.le_refl _)) (v := some (.int (1 : Int32))) (fun h => by rw [Bd.returns] at h; cases h) Bd.notSynchronized (fun fs hr => retN X177 hx (t := .boolean) Bd.returns (by simp) (hb hby at_148) hr) ?_ (by decide) (by decide)
          show Q0 Z B p0 p1 cs fm wN wT wM wB wY wO h0 n0 _ T177.heap T177.vm _
          exact ⟨rfl, N177⟩
        · refine own_goW (T' := s₁) (f' := (mkF m 78 #[.val (.int p0), .val (.int p1), .val (.int zm), .val (.int (3 : Int32)), .unset] [(.int (3 : Int32))])) (fun _ k => XS.iloadN X0.here hx rfl (hb hby at_77) rfl k) ?_
          obtain ⟨_, _, ⟨T178, L178, k178, n178⟩, -, X178, hS178, hgr178, ⟨Lc178, hQ178, l178, y178, z178⟩, st178⟩ := callSS X0 hx (y := mn7) hown (mvT hZ (ow8 hw)) (mvT hZ (ow9 hw)) (mvT hZ (ow10 hw)) (mvT hZ (ow11 hw)) (by decide) (own_backS (W := 0) (rm2N l Z a0 hw [] (s.setVm s.vm) (3 : Int32) cs fm wN wT wM wB wY wO h0 n0 Z0 S_cs hcs S_fm hfm S_N S_T S_M S_B S_Y S_O I1 (fun _ _ q => by rw [hZh]; exact q) hcw hh7 (by decide) (by decide) (by decide +kernel)) hZ (ow11 hw) (ow10 hw) (by decide) (by decide)) (g := (mkF m 78 #[.val (.int p0), .val (.int p1), .val (.int zm), .val (.int (3 : Int32)), .unset] [(.int (3 : Int32))])) rfl (by rw [hml]; rfl) (argsL := [(.int (3 : Int32))]) (rest := []) (lenOf pd3 rfl) rfl (by show 2 * 0 + _ ≤ _; exact Nat.le_of_eq rfl) (hb hby at_78) (fun _ _ => ⟨rfl, e0, (by decide : 0 + 2 ≤ _), (by decide : 0 + 136 ≤ _)⟩)
          dsimp only [Pt.U, Pt.locs, Pt.cells, Pt.slots] at X178 l178 y178 z178 st178 hQ178 hS178 hgr178
          subst l178 y178 z178
          have hM178 := hS178
          obtain ⟨X178, hS, hZ, hown⟩ := rebS hS (by rw [e0]; exact (Nat.le_refl _) : _ ≤ s₁.heap.size) X178 hM178 hgr178 hZ hown
          obtain ⟨rfl, N178q, K178⟩ := hQ178
          have N178 := Fr.app N0 N178q
          have KK178 : Keep h0 T178.heap [] := Keep.trans (Keep.refl h0 []) K178 all0
          refine own_goW (T' := T178) (f' := (mkF m 135 #[.val (.int p0), .val (.int p1), .val (.int zm), .val (.int (3 : Int32)), .val (.ref wN)] [(.int (3 : Int32))])) (fun _ k => st178.trans (XS.astore X178.here hx rfl (hb hby at_81) rfl rfl (l' := #[.val (.int p0), .val (.int p1), .val (.int zm), .val (.int (3 : Int32)), .val (.ref wN)]) rfl (XS.goto X178.here hx rfl (pc0 := 83) (pc' := 134) rfl (hb hby at_83) (by decide) (by decide) (XS.iloadN X178.here hx rfl (hb hby at_134) rfl k)))) ?_
          obtain ⟨_, _, ⟨T179, L179, k179, n179⟩, -, X179, ⟨Lc179, hQ179, l179, y179, z179⟩, st179⟩ := Jvm.LawKit.callS X178 hx (y := mn5) hown (mvT hZ (ow4 hw)) (mvT hZ (ow5 hw)) (mvT hZ (ow2 hw)) (mvT hZ (ow6 hw)) (by decide) (backOf (W := 0) (rm1N l Z a0 hw [] (3 : Int32) wN wT wM wB wY wO T178.heap n0 (Nat.le_trans Z0 K178.1) (own_sta_keep S_N K178 own_ws0) (own_sta_keep S_T K178 own_ws0) (own_sta_keep S_M K178 own_ws0) (own_sta_keep S_B K178 own_ws0) (own_sta_keep S_Y K178 own_ws0) (own_sta_keep S_O K178 own_ws0) (by decide +kernel)) hZ (ow6 hw) (ow2 hw) (by decide) (by decide)) (g := (mkF m 135 #[.val (.int p0), .val (.int p1), .val (.int zm), .val (.int (3 : Int32)), .val (.ref wN)] [(.int (3 : Int32))])) rfl (by rw [hml]; rfl) (argsL := [(.int (3 : Int32))]) (rest := []) (lenOf pd3 rfl) rfl (by show 2 * 0 + _ ≤ _; exact Nat.le_of_eq rfl) (hb hby at_135) (fun _ _ => ⟨rfl, rfl, (by decide : 2 + 0 ≤ _), (by decide : 136 + 0 ≤ _)⟩)
          dsimp only [Pt.U, Pt.locs, Pt.cells, Pt.slots] at X179 l179 y179 z179 st179 hQ179
          subst l179 y179 z179
          obtain ⟨rfl, N179q, hh179⟩ := hQ179
          have N179 := Fr.app N178 N179q
          refine own_goW (T' := T179) (f' := (mkF m 148 #[.val (.int p0), .val (.int p1), .val (.int zm), .val (.int (3 : Int32)), .val (.ref wN)] [(.int (1 : Int32))])) (fun _ k => st179 _ (XS.aload X179.here hx rfl (hb hby at_138) rfl rfl (Jvm.RoadKit.acmp (g := (mkF m 140 #[.val (.int p0), .val (.int p1), .val (.int zm), .val (.int (3 : Int32)), .val (.ref wN)] [(.ref wN), (.ref wN)])) X179 hx rfl rfl rfl (pc0 := 140) (pc' := 143) (same := true) rfl (hb hby at_140) rfl (decide_eq_true rfl) (by decide) (by decide) (XS.iconst X179.here hx rfl (hb hby at_143) (XS.goto X179.here hx rfl (pc0 := 144) (pc' := 148) rfl (hb hby at_144) (by decide) (by decide) k))))) ?_
          refine own_retW X179 hS (by rw [hh179]; exact (Nat.le_refl _)) (v := some (.int (1 : Int32))) (fun h => by rw [Bd.returns] at h; cases h) Bd.notSynchronized (fun fs hr => retN X179 hx (t := .boolean) Bd.returns (by simp) (hb hby at_148) hr) ?_ (by decide) (by decide)
          show Q0 Z B p0 p1 cs fm wN wT wM wB wY wO h0 n0 _ T179.heap T179.vm _
          exact ⟨rfl, N179⟩
        · refine own_goW (T' := s₁) (f' := (mkF m 78 #[.val (.int p0), .val (.int p1), .val (.int zm), .val (.int (4 : Int32)), .unset] [(.int (4 : Int32))])) (fun _ k => XS.iloadN X0.here hx rfl (hb hby at_77) rfl k) ?_
          obtain ⟨_, _, ⟨T180, L180, k180, n180⟩, -, X180, hS180, hgr180, ⟨Lc180, hQ180, l180, y180, z180⟩, st180⟩ := callSS X0 hx (y := mn7) hown (mvT hZ (ow8 hw)) (mvT hZ (ow9 hw)) (mvT hZ (ow10 hw)) (mvT hZ (ow11 hw)) (by decide) (own_backS (W := 0) (rm2N l Z a0 hw [] (s.setVm s.vm) (4 : Int32) cs fm wN wT wM wB wY wO h0 n0 Z0 S_cs hcs S_fm hfm S_N S_T S_M S_B S_Y S_O I1 (fun _ _ q => by rw [hZh]; exact q) hcw hh7 (by decide) (by decide) (by decide +kernel)) hZ (ow11 hw) (ow10 hw) (by decide) (by decide)) (g := (mkF m 78 #[.val (.int p0), .val (.int p1), .val (.int zm), .val (.int (4 : Int32)), .unset] [(.int (4 : Int32))])) rfl (by rw [hml]; rfl) (argsL := [(.int (4 : Int32))]) (rest := []) (lenOf pd3 rfl) rfl (by show 2 * 0 + _ ≤ _; exact Nat.le_of_eq rfl) (hb hby at_78) (fun _ _ => ⟨rfl, e0, (by decide : 0 + 2 ≤ _), (by decide : 0 + 136 ≤ _)⟩)
          dsimp only [Pt.U, Pt.locs, Pt.cells, Pt.slots] at X180 l180 y180 z180 st180 hQ180 hS180 hgr180
          subst l180 y180 z180
          have hM180 := hS180
          obtain ⟨X180, hS, hZ, hown⟩ := rebS hS (by rw [e0]; exact (Nat.le_refl _) : _ ≤ s₁.heap.size) X180 hM180 hgr180 hZ hown
          obtain ⟨rfl, N180q, K180⟩ := hQ180
          have N180 := Fr.app N0 N180q
          have KK180 : Keep h0 T180.heap [] := Keep.trans (Keep.refl h0 []) K180 all0
          refine own_goW (T' := T180) (f' := (mkF m 135 #[.val (.int p0), .val (.int p1), .val (.int zm), .val (.int (4 : Int32)), .val (.ref wN)] [(.int (4 : Int32))])) (fun _ k => st180.trans (XS.astore X180.here hx rfl (hb hby at_81) rfl rfl (l' := #[.val (.int p0), .val (.int p1), .val (.int zm), .val (.int (4 : Int32)), .val (.ref wN)]) rfl (XS.goto X180.here hx rfl (pc0 := 83) (pc' := 134) rfl (hb hby at_83) (by decide) (by decide) (XS.iloadN X180.here hx rfl (hb hby at_134) rfl k)))) ?_
          obtain ⟨_, _, ⟨T181, L181, k181, n181⟩, -, X181, ⟨Lc181, hQ181, l181, y181, z181⟩, st181⟩ := Jvm.LawKit.callS X180 hx (y := mn5) hown (mvT hZ (ow4 hw)) (mvT hZ (ow5 hw)) (mvT hZ (ow2 hw)) (mvT hZ (ow6 hw)) (by decide) (backOf (W := 0) (rm1N l Z a0 hw [] (4 : Int32) wN wT wM wB wY wO T180.heap n0 (Nat.le_trans Z0 K180.1) (own_sta_keep S_N K180 own_ws0) (own_sta_keep S_T K180 own_ws0) (own_sta_keep S_M K180 own_ws0) (own_sta_keep S_B K180 own_ws0) (own_sta_keep S_Y K180 own_ws0) (own_sta_keep S_O K180 own_ws0) (by decide +kernel)) hZ (ow6 hw) (ow2 hw) (by decide) (by decide)) (g := (mkF m 135 #[.val (.int p0), .val (.int p1), .val (.int zm), .val (.int (4 : Int32)), .val (.ref wN)] [(.int (4 : Int32))])) rfl (by rw [hml]; rfl) (argsL := [(.int (4 : Int32))]) (rest := []) (lenOf pd3 rfl) rfl (by show 2 * 0 + _ ≤ _; exact Nat.le_of_eq rfl) (hb hby at_135) (fun _ _ => ⟨rfl, rfl, (by decide : 2 + 0 ≤ _), (by decide : 136 + 0 ≤ _)⟩)
          dsimp only [Pt.U, Pt.locs, Pt.cells, Pt.slots] at X181 l181 y181 z181 st181 hQ181
          subst l181 y181 z181
          obtain ⟨rfl, N181q, hh181⟩ := hQ181
          have N181 := Fr.app N180 N181q
          refine own_goW (T' := T181) (f' := (mkF m 148 #[.val (.int p0), .val (.int p1), .val (.int zm), .val (.int (4 : Int32)), .val (.ref wN)] [(.int (1 : Int32))])) (fun _ k => st181 _ (XS.aload X181.here hx rfl (hb hby at_138) rfl rfl (Jvm.RoadKit.acmp (g := (mkF m 140 #[.val (.int p0), .val (.int p1), .val (.int zm), .val (.int (4 : Int32)), .val (.ref wN)] [(.ref wN), (.ref wN)])) X181 hx rfl rfl rfl (pc0 := 140) (pc' := 143) (same := true) rfl (hb hby at_140) rfl (decide_eq_true rfl) (by decide) (by decide) (XS.iconst X181.here hx rfl (hb hby at_143) (XS.goto X181.here hx rfl (pc0 := 144) (pc' := 148) rfl (hb hby at_144) (by decide) (by decide) k))))) ?_
          refine own_retW X181 hS (by rw [hh181]; exact (Nat.le_refl _)) (v := some (.int (1 : Int32))) (fun h => by rw [Bd.returns] at h; cases h) Bd.notSynchronized (fun fs hr => retN X181 hx (t := .boolean) Bd.returns (by simp) (hb hby at_148) hr) ?_ (by decide) (by decide)
          show Q0 Z B p0 p1 cs fm wN wT wM wB wY wO h0 n0 _ T181.heap T181.vm _
          exact ⟨rfl, N181⟩
        · refine own_goW (T' := s₁) (f' := (mkF m 78 #[.val (.int p0), .val (.int p1), .val (.int zm), .val (.int (5 : Int32)), .unset] [(.int (5 : Int32))])) (fun _ k => XS.iloadN X0.here hx rfl (hb hby at_77) rfl k) ?_
          obtain ⟨_, _, ⟨T182, L182, k182, n182⟩, -, X182, hS182, hgr182, ⟨Lc182, hQ182, l182, y182, z182⟩, st182⟩ := callSS X0 hx (y := mn7) hown (mvT hZ (ow8 hw)) (mvT hZ (ow9 hw)) (mvT hZ (ow10 hw)) (mvT hZ (ow11 hw)) (by decide) (own_backS (W := 0) (rm2N l Z a0 hw [] (s.setVm s.vm) (5 : Int32) cs fm wN wT wM wB wY wO h0 n0 Z0 S_cs hcs S_fm hfm S_N S_T S_M S_B S_Y S_O I1 (fun _ _ q => by rw [hZh]; exact q) hcw hh7 (by decide) (by decide) (by decide +kernel)) hZ (ow11 hw) (ow10 hw) (by decide) (by decide)) (g := (mkF m 78 #[.val (.int p0), .val (.int p1), .val (.int zm), .val (.int (5 : Int32)), .unset] [(.int (5 : Int32))])) rfl (by rw [hml]; rfl) (argsL := [(.int (5 : Int32))]) (rest := []) (lenOf pd3 rfl) rfl (by show 2 * 0 + _ ≤ _; exact Nat.le_of_eq rfl) (hb hby at_78) (fun _ _ => ⟨rfl, e0, (by decide : 0 + 2 ≤ _), (by decide : 0 + 136 ≤ _)⟩)
          dsimp only [Pt.U, Pt.locs, Pt.cells, Pt.slots] at X182 l182 y182 z182 st182 hQ182 hS182 hgr182
          subst l182 y182 z182
          have hM182 := hS182
          obtain ⟨X182, hS, hZ, hown⟩ := rebS hS (by rw [e0]; exact (Nat.le_refl _) : _ ≤ s₁.heap.size) X182 hM182 hgr182 hZ hown
          obtain ⟨rfl, N182q, K182⟩ := hQ182
          have N182 := Fr.app N0 N182q
          have KK182 : Keep h0 T182.heap [] := Keep.trans (Keep.refl h0 []) K182 all0
          refine own_goW (T' := T182) (f' := (mkF m 135 #[.val (.int p0), .val (.int p1), .val (.int zm), .val (.int (5 : Int32)), .val (.ref wN)] [(.int (5 : Int32))])) (fun _ k => st182.trans (XS.astore X182.here hx rfl (hb hby at_81) rfl rfl (l' := #[.val (.int p0), .val (.int p1), .val (.int zm), .val (.int (5 : Int32)), .val (.ref wN)]) rfl (XS.goto X182.here hx rfl (pc0 := 83) (pc' := 134) rfl (hb hby at_83) (by decide) (by decide) (XS.iloadN X182.here hx rfl (hb hby at_134) rfl k)))) ?_
          obtain ⟨_, _, ⟨T183, L183, k183, n183⟩, -, X183, ⟨Lc183, hQ183, l183, y183, z183⟩, st183⟩ := Jvm.LawKit.callS X182 hx (y := mn5) hown (mvT hZ (ow4 hw)) (mvT hZ (ow5 hw)) (mvT hZ (ow2 hw)) (mvT hZ (ow6 hw)) (by decide) (backOf (W := 0) (rm1N l Z a0 hw [] (5 : Int32) wN wT wM wB wY wO T182.heap n0 (Nat.le_trans Z0 K182.1) (own_sta_keep S_N K182 own_ws0) (own_sta_keep S_T K182 own_ws0) (own_sta_keep S_M K182 own_ws0) (own_sta_keep S_B K182 own_ws0) (own_sta_keep S_Y K182 own_ws0) (own_sta_keep S_O K182 own_ws0) (by decide +kernel)) hZ (ow6 hw) (ow2 hw) (by decide) (by decide)) (g := (mkF m 135 #[.val (.int p0), .val (.int p1), .val (.int zm), .val (.int (5 : Int32)), .val (.ref wN)] [(.int (5 : Int32))])) rfl (by rw [hml]; rfl) (argsL := [(.int (5 : Int32))]) (rest := []) (lenOf pd3 rfl) rfl (by show 2 * 0 + _ ≤ _; exact Nat.le_of_eq rfl) (hb hby at_135) (fun _ _ => ⟨rfl, rfl, (by decide : 2 + 0 ≤ _), (by decide : 136 + 0 ≤ _)⟩)
          dsimp only [Pt.U, Pt.locs, Pt.cells, Pt.slots] at X183 l183 y183 z183 st183 hQ183
          subst l183 y183 z183
          obtain ⟨rfl, N183q, hh183⟩ := hQ183
          have N183 := Fr.app N182 N183q
          refine own_goW (T' := T183) (f' := (mkF m 148 #[.val (.int p0), .val (.int p1), .val (.int zm), .val (.int (5 : Int32)), .val (.ref wN)] [(.int (1 : Int32))])) (fun _ k => st183 _ (XS.aload X183.here hx rfl (hb hby at_138) rfl rfl (Jvm.RoadKit.acmp (g := (mkF m 140 #[.val (.int p0), .val (.int p1), .val (.int zm), .val (.int (5 : Int32)), .val (.ref wN)] [(.ref wN), (.ref wN)])) X183 hx rfl rfl rfl (pc0 := 140) (pc' := 143) (same := true) rfl (hb hby at_140) rfl (decide_eq_true rfl) (by decide) (by decide) (XS.iconst X183.here hx rfl (hb hby at_143) (XS.goto X183.here hx rfl (pc0 := 144) (pc' := 148) rfl (hb hby at_144) (by decide) (by decide) k))))) ?_
          refine own_retW X183 hS (by rw [hh183]; exact (Nat.le_refl _)) (v := some (.int (1 : Int32))) (fun h => by rw [Bd.returns] at h; cases h) Bd.notSynchronized (fun fs hr => retN X183 hx (t := .boolean) Bd.returns (by simp) (hb hby at_148) hr) ?_ (by decide) (by decide)
          show Q0 Z B p0 p1 cs fm wN wT wM wB wY wO h0 n0 _ T183.heap T183.vm _
          exact ⟨rfl, N183⟩
        · refine own_goW (T' := s₁) (f' := (mkF m 78 #[.val (.int p0), .val (.int p1), .val (.int zm), .val (.int (6 : Int32)), .unset] [(.int (6 : Int32))])) (fun _ k => XS.iloadN X0.here hx rfl (hb hby at_77) rfl k) ?_
          obtain ⟨_, _, ⟨T184, L184, k184, n184⟩, -, X184, hS184, hgr184, ⟨Lc184, hQ184, l184, y184, z184⟩, st184⟩ := callSS X0 hx (y := mn7) hown (mvT hZ (ow8 hw)) (mvT hZ (ow9 hw)) (mvT hZ (ow10 hw)) (mvT hZ (ow11 hw)) (by decide) (own_backS (W := 0) (rm2N l Z a0 hw [] (s.setVm s.vm) (6 : Int32) cs fm wN wT wM wB wY wO h0 n0 Z0 S_cs hcs S_fm hfm S_N S_T S_M S_B S_Y S_O I1 (fun _ _ q => by rw [hZh]; exact q) hcw hh7 (by decide) (by decide) (by decide +kernel)) hZ (ow11 hw) (ow10 hw) (by decide) (by decide)) (g := (mkF m 78 #[.val (.int p0), .val (.int p1), .val (.int zm), .val (.int (6 : Int32)), .unset] [(.int (6 : Int32))])) rfl (by rw [hml]; rfl) (argsL := [(.int (6 : Int32))]) (rest := []) (lenOf pd3 rfl) rfl (by show 2 * 0 + _ ≤ _; exact Nat.le_of_eq rfl) (hb hby at_78) (fun _ _ => ⟨rfl, e0, (by decide : 0 + 2 ≤ _), (by decide : 0 + 136 ≤ _)⟩)
          dsimp only [Pt.U, Pt.locs, Pt.cells, Pt.slots] at X184 l184 y184 z184 st184 hQ184 hS184 hgr184
          subst l184 y184 z184
          have hM184 := hS184
          obtain ⟨X184, hS, hZ, hown⟩ := rebS hS (by rw [e0]; exact (Nat.le_refl _) : _ ≤ s₁.heap.size) X184 hM184 hgr184 hZ hown
          obtain ⟨rfl, N184q, K184⟩ := hQ184
          have N184 := Fr.app N0 N184q
          have KK184 : Keep h0 T184.heap [] := Keep.trans (Keep.refl h0 []) K184 all0
          refine own_goW (T' := T184) (f' := (mkF m 135 #[.val (.int p0), .val (.int p1), .val (.int zm), .val (.int (6 : Int32)), .val (.ref wN)] [(.int (6 : Int32))])) (fun _ k => st184.trans (XS.astore X184.here hx rfl (hb hby at_81) rfl rfl (l' := #[.val (.int p0), .val (.int p1), .val (.int zm), .val (.int (6 : Int32)), .val (.ref wN)]) rfl (XS.goto X184.here hx rfl (pc0 := 83) (pc' := 134) rfl (hb hby at_83) (by decide) (by decide) (XS.iloadN X184.here hx rfl (hb hby at_134) rfl k)))) ?_
          obtain ⟨_, _, ⟨T185, L185, k185, n185⟩, -, X185, ⟨Lc185, hQ185, l185, y185, z185⟩, st185⟩ := Jvm.LawKit.callS X184 hx (y := mn5) hown (mvT hZ (ow4 hw)) (mvT hZ (ow5 hw)) (mvT hZ (ow2 hw)) (mvT hZ (ow6 hw)) (by decide) (backOf (W := 0) (rm1N l Z a0 hw [] (6 : Int32) wN wT wM wB wY wO T184.heap n0 (Nat.le_trans Z0 K184.1) (own_sta_keep S_N K184 own_ws0) (own_sta_keep S_T K184 own_ws0) (own_sta_keep S_M K184 own_ws0) (own_sta_keep S_B K184 own_ws0) (own_sta_keep S_Y K184 own_ws0) (own_sta_keep S_O K184 own_ws0) (by decide +kernel)) hZ (ow6 hw) (ow2 hw) (by decide) (by decide)) (g := (mkF m 135 #[.val (.int p0), .val (.int p1), .val (.int zm), .val (.int (6 : Int32)), .val (.ref wN)] [(.int (6 : Int32))])) rfl (by rw [hml]; rfl) (argsL := [(.int (6 : Int32))]) (rest := []) (lenOf pd3 rfl) rfl (by show 2 * 0 + _ ≤ _; exact Nat.le_of_eq rfl) (hb hby at_135) (fun _ _ => ⟨rfl, rfl, (by decide : 2 + 0 ≤ _), (by decide : 136 + 0 ≤ _)⟩)
          dsimp only [Pt.U, Pt.locs, Pt.cells, Pt.slots] at X185 l185 y185 z185 st185 hQ185
          subst l185 y185 z185
          obtain ⟨rfl, N185q, hh185⟩ := hQ185
          have N185 := Fr.app N184 N185q
          refine own_goW (T' := T185) (f' := (mkF m 148 #[.val (.int p0), .val (.int p1), .val (.int zm), .val (.int (6 : Int32)), .val (.ref wN)] [(.int (1 : Int32))])) (fun _ k => st185 _ (XS.aload X185.here hx rfl (hb hby at_138) rfl rfl (Jvm.RoadKit.acmp (g := (mkF m 140 #[.val (.int p0), .val (.int p1), .val (.int zm), .val (.int (6 : Int32)), .val (.ref wN)] [(.ref wN), (.ref wN)])) X185 hx rfl rfl rfl (pc0 := 140) (pc' := 143) (same := true) rfl (hb hby at_140) rfl (decide_eq_true rfl) (by decide) (by decide) (XS.iconst X185.here hx rfl (hb hby at_143) (XS.goto X185.here hx rfl (pc0 := 144) (pc' := 148) rfl (hb hby at_144) (by decide) (by decide) k))))) ?_
          refine own_retW X185 hS (by rw [hh185]; exact (Nat.le_refl _)) (v := some (.int (1 : Int32))) (fun h => by rw [Bd.returns] at h; cases h) Bd.notSynchronized (fun fs hr => retN X185 hx (t := .boolean) Bd.returns (by simp) (hb hby at_148) hr) ?_ (by decide) (by decide)
          show Q0 Z B p0 p1 cs fm wN wT wM wB wY wO h0 n0 _ T185.heap T185.vm _
          exact ⟨rfl, N185⟩
        · refine own_goW (T' := s₁) (f' := (mkF m 78 #[.val (.int p0), .val (.int p1), .val (.int zm), .val (.int (7 : Int32)), .unset] [(.int (7 : Int32))])) (fun _ k => XS.iloadN X0.here hx rfl (hb hby at_77) rfl k) ?_
          obtain ⟨_, _, ⟨T186, L186, k186, n186⟩, -, X186, hS186, hgr186, ⟨Lc186, hQ186, l186, y186, z186⟩, st186⟩ := callSS X0 hx (y := mn7) hown (mvT hZ (ow8 hw)) (mvT hZ (ow9 hw)) (mvT hZ (ow10 hw)) (mvT hZ (ow11 hw)) (by decide) (own_backS (W := 0) (rm2N l Z a0 hw [] (s.setVm s.vm) (7 : Int32) cs fm wN wT wM wB wY wO h0 n0 Z0 S_cs hcs S_fm hfm S_N S_T S_M S_B S_Y S_O I1 (fun _ _ q => by rw [hZh]; exact q) hcw hh7 (by decide) (by decide) (by decide +kernel)) hZ (ow11 hw) (ow10 hw) (by decide) (by decide)) (g := (mkF m 78 #[.val (.int p0), .val (.int p1), .val (.int zm), .val (.int (7 : Int32)), .unset] [(.int (7 : Int32))])) rfl (by rw [hml]; rfl) (argsL := [(.int (7 : Int32))]) (rest := []) (lenOf pd3 rfl) rfl (by show 2 * 0 + _ ≤ _; exact Nat.le_of_eq rfl) (hb hby at_78) (fun _ _ => ⟨rfl, e0, (by decide : 0 + 2 ≤ _), (by decide : 0 + 136 ≤ _)⟩)
          dsimp only [Pt.U, Pt.locs, Pt.cells, Pt.slots] at X186 l186 y186 z186 st186 hQ186 hS186 hgr186
          subst l186 y186 z186
          have hM186 := hS186
          obtain ⟨X186, hS, hZ, hown⟩ := rebS hS (by rw [e0]; exact (Nat.le_refl _) : _ ≤ s₁.heap.size) X186 hM186 hgr186 hZ hown
          obtain ⟨rfl, N186q, K186⟩ := hQ186
          have N186 := Fr.app N0 N186q
          have KK186 : Keep h0 T186.heap [] := Keep.trans (Keep.refl h0 []) K186 all0
          refine own_goW (T' := T186) (f' := (mkF m 135 #[.val (.int p0), .val (.int p1), .val (.int zm), .val (.int (7 : Int32)), .val (.ref wN)] [(.int (7 : Int32))])) (fun _ k => st186.trans (XS.astore X186.here hx rfl (hb hby at_81) rfl rfl (l' := #[.val (.int p0), .val (.int p1), .val (.int zm), .val (.int (7 : Int32)), .val (.ref wN)]) rfl (XS.goto X186.here hx rfl (pc0 := 83) (pc' := 134) rfl (hb hby at_83) (by decide) (by decide) (XS.iloadN X186.here hx rfl (hb hby at_134) rfl k)))) ?_
          obtain ⟨_, _, ⟨T187, L187, k187, n187⟩, -, X187, ⟨Lc187, hQ187, l187, y187, z187⟩, st187⟩ := Jvm.LawKit.callS X186 hx (y := mn5) hown (mvT hZ (ow4 hw)) (mvT hZ (ow5 hw)) (mvT hZ (ow2 hw)) (mvT hZ (ow6 hw)) (by decide) (backOf (W := 0) (rm1N l Z a0 hw [] (7 : Int32) wN wT wM wB wY wO T186.heap n0 (Nat.le_trans Z0 K186.1) (own_sta_keep S_N K186 own_ws0) (own_sta_keep S_T K186 own_ws0) (own_sta_keep S_M K186 own_ws0) (own_sta_keep S_B K186 own_ws0) (own_sta_keep S_Y K186 own_ws0) (own_sta_keep S_O K186 own_ws0) (by decide +kernel)) hZ (ow6 hw) (ow2 hw) (by decide) (by decide)) (g := (mkF m 135 #[.val (.int p0), .val (.int p1), .val (.int zm), .val (.int (7 : Int32)), .val (.ref wN)] [(.int (7 : Int32))])) rfl (by rw [hml]; rfl) (argsL := [(.int (7 : Int32))]) (rest := []) (lenOf pd3 rfl) rfl (by show 2 * 0 + _ ≤ _; exact Nat.le_of_eq rfl) (hb hby at_135) (fun _ _ => ⟨rfl, rfl, (by decide : 2 + 0 ≤ _), (by decide : 136 + 0 ≤ _)⟩)
          dsimp only [Pt.U, Pt.locs, Pt.cells, Pt.slots] at X187 l187 y187 z187 st187 hQ187
          subst l187 y187 z187
          obtain ⟨rfl, N187q, hh187⟩ := hQ187
          have N187 := Fr.app N186 N187q
          refine own_goW (T' := T187) (f' := (mkF m 148 #[.val (.int p0), .val (.int p1), .val (.int zm), .val (.int (7 : Int32)), .val (.ref wN)] [(.int (1 : Int32))])) (fun _ k => st187 _ (XS.aload X187.here hx rfl (hb hby at_138) rfl rfl (Jvm.RoadKit.acmp (g := (mkF m 140 #[.val (.int p0), .val (.int p1), .val (.int zm), .val (.int (7 : Int32)), .val (.ref wN)] [(.ref wN), (.ref wN)])) X187 hx rfl rfl rfl (pc0 := 140) (pc' := 143) (same := true) rfl (hb hby at_140) rfl (decide_eq_true rfl) (by decide) (by decide) (XS.iconst X187.here hx rfl (hb hby at_143) (XS.goto X187.here hx rfl (pc0 := 144) (pc' := 148) rfl (hb hby at_144) (by decide) (by decide) k))))) ?_
          refine own_retW X187 hS (by rw [hh187]; exact (Nat.le_refl _)) (v := some (.int (1 : Int32))) (fun h => by rw [Bd.returns] at h; cases h) Bd.notSynchronized (fun fs hr => retN X187 hx (t := .boolean) Bd.returns (by simp) (hb hby at_148) hr) ?_ (by decide) (by decide)
          show Q0 Z B p0 p1 cs fm wN wT wM wB wY wO h0 n0 _ T187.heap T187.vm _
          exact ⟨rfl, N187⟩
        · refine own_goW (T' := s₁) (f' := (mkF m 78 #[.val (.int p0), .val (.int p1), .val (.int zm), .val (.int (8 : Int32)), .unset] [(.int (8 : Int32))])) (fun _ k => XS.iloadN X0.here hx rfl (hb hby at_77) rfl k) ?_
          obtain ⟨_, _, ⟨T188, L188, k188, n188⟩, -, X188, hS188, hgr188, ⟨Lc188, hQ188, l188, y188, z188⟩, st188⟩ := callSS X0 hx (y := mn7) hown (mvT hZ (ow8 hw)) (mvT hZ (ow9 hw)) (mvT hZ (ow10 hw)) (mvT hZ (ow11 hw)) (by decide) (own_backS (W := 0) (rm2N l Z a0 hw [] (s.setVm s.vm) (8 : Int32) cs fm wN wT wM wB wY wO h0 n0 Z0 S_cs hcs S_fm hfm S_N S_T S_M S_B S_Y S_O I1 (fun _ _ q => by rw [hZh]; exact q) hcw hh7 (by decide) (by decide) (by decide +kernel)) hZ (ow11 hw) (ow10 hw) (by decide) (by decide)) (g := (mkF m 78 #[.val (.int p0), .val (.int p1), .val (.int zm), .val (.int (8 : Int32)), .unset] [(.int (8 : Int32))])) rfl (by rw [hml]; rfl) (argsL := [(.int (8 : Int32))]) (rest := []) (lenOf pd3 rfl) rfl (by show 2 * 0 + _ ≤ _; exact Nat.le_of_eq rfl) (hb hby at_78) (fun _ _ => ⟨rfl, e0, (by decide : 0 + 2 ≤ _), (by decide : 0 + 136 ≤ _)⟩)
          dsimp only [Pt.U, Pt.locs, Pt.cells, Pt.slots] at X188 l188 y188 z188 st188 hQ188 hS188 hgr188
          subst l188 y188 z188
          have hM188 := hS188
          obtain ⟨X188, hS, hZ, hown⟩ := rebS hS (by rw [e0]; exact (Nat.le_refl _) : _ ≤ s₁.heap.size) X188 hM188 hgr188 hZ hown
          obtain ⟨rfl, N188q, K188⟩ := hQ188
          have N188 := Fr.app N0 N188q
          have KK188 : Keep h0 T188.heap [] := Keep.trans (Keep.refl h0 []) K188 all0
          refine own_goW (T' := T188) (f' := (mkF m 135 #[.val (.int p0), .val (.int p1), .val (.int zm), .val (.int (8 : Int32)), .val (.ref wN)] [(.int (8 : Int32))])) (fun _ k => st188.trans (XS.astore X188.here hx rfl (hb hby at_81) rfl rfl (l' := #[.val (.int p0), .val (.int p1), .val (.int zm), .val (.int (8 : Int32)), .val (.ref wN)]) rfl (XS.goto X188.here hx rfl (pc0 := 83) (pc' := 134) rfl (hb hby at_83) (by decide) (by decide) (XS.iloadN X188.here hx rfl (hb hby at_134) rfl k)))) ?_
          obtain ⟨_, _, ⟨T189, L189, k189, n189⟩, -, X189, ⟨Lc189, hQ189, l189, y189, z189⟩, st189⟩ := Jvm.LawKit.callS X188 hx (y := mn5) hown (mvT hZ (ow4 hw)) (mvT hZ (ow5 hw)) (mvT hZ (ow2 hw)) (mvT hZ (ow6 hw)) (by decide) (backOf (W := 0) (rm1N l Z a0 hw [] (8 : Int32) wN wT wM wB wY wO T188.heap n0 (Nat.le_trans Z0 K188.1) (own_sta_keep S_N K188 own_ws0) (own_sta_keep S_T K188 own_ws0) (own_sta_keep S_M K188 own_ws0) (own_sta_keep S_B K188 own_ws0) (own_sta_keep S_Y K188 own_ws0) (own_sta_keep S_O K188 own_ws0) (by decide +kernel)) hZ (ow6 hw) (ow2 hw) (by decide) (by decide)) (g := (mkF m 135 #[.val (.int p0), .val (.int p1), .val (.int zm), .val (.int (8 : Int32)), .val (.ref wN)] [(.int (8 : Int32))])) rfl (by rw [hml]; rfl) (argsL := [(.int (8 : Int32))]) (rest := []) (lenOf pd3 rfl) rfl (by show 2 * 0 + _ ≤ _; exact Nat.le_of_eq rfl) (hb hby at_135) (fun _ _ => ⟨rfl, rfl, (by decide : 2 + 0 ≤ _), (by decide : 136 + 0 ≤ _)⟩)
          dsimp only [Pt.U, Pt.locs, Pt.cells, Pt.slots] at X189 l189 y189 z189 st189 hQ189
          subst l189 y189 z189
          obtain ⟨rfl, N189q, hh189⟩ := hQ189
          have N189 := Fr.app N188 N189q
          refine own_goW (T' := T189) (f' := (mkF m 148 #[.val (.int p0), .val (.int p1), .val (.int zm), .val (.int (8 : Int32)), .val (.ref wN)] [(.int (1 : Int32))])) (fun _ k => st189 _ (XS.aload X189.here hx rfl (hb hby at_138) rfl rfl (Jvm.RoadKit.acmp (g := (mkF m 140 #[.val (.int p0), .val (.int p1), .val (.int zm), .val (.int (8 : Int32)), .val (.ref wN)] [(.ref wN), (.ref wN)])) X189 hx rfl rfl rfl (pc0 := 140) (pc' := 143) (same := true) rfl (hb hby at_140) rfl (decide_eq_true rfl) (by decide) (by decide) (XS.iconst X189.here hx rfl (hb hby at_143) (XS.goto X189.here hx rfl (pc0 := 144) (pc' := 148) rfl (hb hby at_144) (by decide) (by decide) k))))) ?_
          refine own_retW X189 hS (by rw [hh189]; exact (Nat.le_refl _)) (v := some (.int (1 : Int32))) (fun h => by rw [Bd.returns] at h; cases h) Bd.notSynchronized (fun fs hr => retN X189 hx (t := .boolean) Bd.returns (by simp) (hb hby at_148) hr) ?_ (by decide) (by decide)
          show Q0 Z B p0 p1 cs fm wN wT wM wB wY wO h0 n0 _ T189.heap T189.vm _
          exact ⟨rfl, N189⟩
        · refine own_goW (T' := s₁) (f' := (mkF m 78 #[.val (.int p0), .val (.int p1), .val (.int zm), .val (.int (9 : Int32)), .unset] [(.int (9 : Int32))])) (fun _ k => XS.iloadN X0.here hx rfl (hb hby at_77) rfl k) ?_
          obtain ⟨_, _, ⟨T190, L190, k190, n190⟩, -, X190, hS190, hgr190, ⟨Lc190, hQ190, l190, y190, z190⟩, st190⟩ := callSS X0 hx (y := mn7) hown (mvT hZ (ow8 hw)) (mvT hZ (ow9 hw)) (mvT hZ (ow10 hw)) (mvT hZ (ow11 hw)) (by decide) (own_backS (W := 0) (rm2O l Z a0 hw [] (s.setVm s.vm) (9 : Int32) cs fm wN wT wM wB wY wO h0 n0 Z0 S_cs hcs S_fm hfm S_N S_T S_M S_B S_Y S_O I1 (fun _ _ q => by rw [hZh]; exact q) hcw hh7 (by decide) (by decide) (by decide +kernel)) hZ (ow11 hw) (ow10 hw) (by decide) (by decide)) (g := (mkF m 78 #[.val (.int p0), .val (.int p1), .val (.int zm), .val (.int (9 : Int32)), .unset] [(.int (9 : Int32))])) rfl (by rw [hml]; rfl) (argsL := [(.int (9 : Int32))]) (rest := []) (lenOf pd3 rfl) rfl (by show 2 * 0 + _ ≤ _; exact Nat.le_of_eq rfl) (hb hby at_78) (fun _ _ => ⟨rfl, e0, (by decide : 0 + 2 ≤ _), (by decide : 0 + 136 ≤ _)⟩)
          dsimp only [Pt.U, Pt.locs, Pt.cells, Pt.slots] at X190 l190 y190 z190 st190 hQ190 hS190 hgr190
          subst l190 y190 z190
          have hM190 := hS190
          obtain ⟨X190, hS, hZ, hown⟩ := rebS hS (by rw [e0]; exact (Nat.le_refl _) : _ ≤ s₁.heap.size) X190 hM190 hgr190 hZ hown
          obtain ⟨rfl, N190q, K190⟩ := hQ190
          have N190 := Fr.app N0 N190q
          have KK190 : Keep h0 T190.heap [] := Keep.trans (Keep.refl h0 []) K190 all0
          refine own_goW (T' := T190) (f' := (mkF m 135 #[.val (.int p0), .val (.int p1), .val (.int zm), .val (.int (9 : Int32)), .val (.ref wO)] [(.int (9 : Int32))])) (fun _ k => st190.trans (XS.astore X190.here hx rfl (hb hby at_81) rfl rfl (l' := #[.val (.int p0), .val (.int p1), .val (.int zm), .val (.int (9 : Int32)), .val (.ref wO)]) rfl (XS.goto X190.here hx rfl (pc0 := 83) (pc' := 134) rfl (hb hby at_83) (by decide) (by decide) (XS.iloadN X190.here hx rfl (hb hby at_134) rfl k)))) ?_
          obtain ⟨_, _, ⟨T191, L191, k191, n191⟩, -, X191, ⟨Lc191, hQ191, l191, y191, z191⟩, st191⟩ := Jvm.LawKit.callS X190 hx (y := mn5) hown (mvT hZ (ow4 hw)) (mvT hZ (ow5 hw)) (mvT hZ (ow2 hw)) (mvT hZ (ow6 hw)) (by decide) (backOf (W := 0) (rm1O l Z a0 hw [] (9 : Int32) wN wT wM wB wY wO T190.heap n0 (Nat.le_trans Z0 K190.1) (own_sta_keep S_N K190 own_ws0) (own_sta_keep S_T K190 own_ws0) (own_sta_keep S_M K190 own_ws0) (own_sta_keep S_B K190 own_ws0) (own_sta_keep S_Y K190 own_ws0) (own_sta_keep S_O K190 own_ws0) (by decide +kernel)) hZ (ow6 hw) (ow2 hw) (by decide) (by decide)) (g := (mkF m 135 #[.val (.int p0), .val (.int p1), .val (.int zm), .val (.int (9 : Int32)), .val (.ref wO)] [(.int (9 : Int32))])) rfl (by rw [hml]; rfl) (argsL := [(.int (9 : Int32))]) (rest := []) (lenOf pd3 rfl) rfl (by show 2 * 0 + _ ≤ _; exact Nat.le_of_eq rfl) (hb hby at_135) (fun _ _ => ⟨rfl, rfl, (by decide : 2 + 0 ≤ _), (by decide : 136 + 0 ≤ _)⟩)
          dsimp only [Pt.U, Pt.locs, Pt.cells, Pt.slots] at X191 l191 y191 z191 st191 hQ191
          subst l191 y191 z191
          obtain ⟨rfl, N191q, hh191⟩ := hQ191
          have N191 := Fr.app N190 N191q
          refine own_goW (T' := T191) (f' := (mkF m 148 #[.val (.int p0), .val (.int p1), .val (.int zm), .val (.int (9 : Int32)), .val (.ref wO)] [(.int (1 : Int32))])) (fun _ k => st191 _ (XS.aload X191.here hx rfl (hb hby at_138) rfl rfl (Jvm.RoadKit.acmp (g := (mkF m 140 #[.val (.int p0), .val (.int p1), .val (.int zm), .val (.int (9 : Int32)), .val (.ref wO)] [(.ref wO), (.ref wO)])) X191 hx rfl rfl rfl (pc0 := 140) (pc' := 143) (same := true) rfl (hb hby at_140) rfl (decide_eq_true rfl) (by decide) (by decide) (XS.iconst X191.here hx rfl (hb hby at_143) (XS.goto X191.here hx rfl (pc0 := 144) (pc' := 148) rfl (hb hby at_144) (by decide) (by decide) k))))) ?_
          refine own_retW X191 hS (by rw [hh191]; exact (Nat.le_refl _)) (v := some (.int (1 : Int32))) (fun h => by rw [Bd.returns] at h; cases h) Bd.notSynchronized (fun fs hr => retN X191 hx (t := .boolean) Bd.returns (by simp) (hb hby at_148) hr) ?_ (by decide) (by decide)
          show Q0 Z B p0 p1 cs fm wN wT wM wB wY wO h0 n0 _ T191.heap T191.vm _
          exact ⟨rfl, N191⟩
        · refine own_goW (T' := s₁) (f' := (mkF m 78 #[.val (.int p0), .val (.int p1), .val (.int zm), .val (.int (10 : Int32)), .unset] [(.int (10 : Int32))])) (fun _ k => XS.iloadN X0.here hx rfl (hb hby at_77) rfl k) ?_
          obtain ⟨_, _, ⟨T192, L192, k192, n192⟩, -, X192, hS192, hgr192, ⟨Lc192, hQ192, l192, y192, z192⟩, st192⟩ := callSS X0 hx (y := mn7) hown (mvT hZ (ow8 hw)) (mvT hZ (ow9 hw)) (mvT hZ (ow10 hw)) (mvT hZ (ow11 hw)) (by decide) (own_backS (W := 0) (rm2O l Z a0 hw [] (s.setVm s.vm) (10 : Int32) cs fm wN wT wM wB wY wO h0 n0 Z0 S_cs hcs S_fm hfm S_N S_T S_M S_B S_Y S_O I1 (fun _ _ q => by rw [hZh]; exact q) hcw hh7 (by decide) (by decide) (by decide +kernel)) hZ (ow11 hw) (ow10 hw) (by decide) (by decide)) (g := (mkF m 78 #[.val (.int p0), .val (.int p1), .val (.int zm), .val (.int (10 : Int32)), .unset] [(.int (10 : Int32))])) rfl (by rw [hml]; rfl) (argsL := [(.int (10 : Int32))]) (rest := []) (lenOf pd3 rfl) rfl (by show 2 * 0 + _ ≤ _; exact Nat.le_of_eq rfl) (hb hby at_78) (fun _ _ => ⟨rfl, e0, (by decide : 0 + 2 ≤ _), (by decide : 0 + 136 ≤ _)⟩)
          dsimp only [Pt.U, Pt.locs, Pt.cells, Pt.slots] at X192 l192 y192 z192 st192 hQ192 hS192 hgr192
          subst l192 y192 z192
          have hM192 := hS192
          obtain ⟨X192, hS, hZ, hown⟩ := rebS hS (by rw [e0]; exact (Nat.le_refl _) : _ ≤ s₁.heap.size) X192 hM192 hgr192 hZ hown
          obtain ⟨rfl, N192q, K192⟩ := hQ192
          have N192 := Fr.app N0 N192q
          have KK192 : Keep h0 T192.heap [] := Keep.trans (Keep.refl h0 []) K192 all0
          refine own_goW (T' := T192) (f' := (mkF m 135 #[.val (.int p0), .val (.int p1), .val (.int zm), .val (.int (10 : Int32)), .val (.ref wO)] [(.int (10 : Int32))])) (fun _ k => st192.trans (XS.astore X192.here hx rfl (hb hby at_81) rfl rfl (l' := #[.val (.int p0), .val (.int p1), .val (.int zm), .val (.int (10 : Int32)), .val (.ref wO)]) rfl (XS.goto X192.here hx rfl (pc0 := 83) (pc' := 134) rfl (hb hby at_83) (by decide) (by decide) (XS.iloadN X192.here hx rfl (hb hby at_134) rfl k)))) ?_
          obtain ⟨_, _, ⟨T193, L193, k193, n193⟩, -, X193, ⟨Lc193, hQ193, l193, y193, z193⟩, st193⟩ := Jvm.LawKit.callS X192 hx (y := mn5) hown (mvT hZ (ow4 hw)) (mvT hZ (ow5 hw)) (mvT hZ (ow2 hw)) (mvT hZ (ow6 hw)) (by decide) (backOf (W := 0) (rm1O l Z a0 hw [] (10 : Int32) wN wT wM wB wY wO T192.heap n0 (Nat.le_trans Z0 K192.1) (own_sta_keep S_N K192 own_ws0) (own_sta_keep S_T K192 own_ws0) (own_sta_keep S_M K192 own_ws0) (own_sta_keep S_B K192 own_ws0) (own_sta_keep S_Y K192 own_ws0) (own_sta_keep S_O K192 own_ws0) (by decide +kernel)) hZ (ow6 hw) (ow2 hw) (by decide) (by decide)) (g := (mkF m 135 #[.val (.int p0), .val (.int p1), .val (.int zm), .val (.int (10 : Int32)), .val (.ref wO)] [(.int (10 : Int32))])) rfl (by rw [hml]; rfl) (argsL := [(.int (10 : Int32))]) (rest := []) (lenOf pd3 rfl) rfl (by show 2 * 0 + _ ≤ _; exact Nat.le_of_eq rfl) (hb hby at_135) (fun _ _ => ⟨rfl, rfl, (by decide : 2 + 0 ≤ _), (by decide : 136 + 0 ≤ _)⟩)
          dsimp only [Pt.U, Pt.locs, Pt.cells, Pt.slots] at X193 l193 y193 z193 st193 hQ193
          subst l193 y193 z193
          obtain ⟨rfl, N193q, hh193⟩ := hQ193
          have N193 := Fr.app N192 N193q
          refine own_goW (T' := T193) (f' := (mkF m 148 #[.val (.int p0), .val (.int p1), .val (.int zm), .val (.int (10 : Int32)), .val (.ref wO)] [(.int (1 : Int32))])) (fun _ k => st193 _ (XS.aload X193.here hx rfl (hb hby at_138) rfl rfl (Jvm.RoadKit.acmp (g := (mkF m 140 #[.val (.int p0), .val (.int p1), .val (.int zm), .val (.int (10 : Int32)), .val (.ref wO)] [(.ref wO), (.ref wO)])) X193 hx rfl rfl rfl (pc0 := 140) (pc' := 143) (same := true) rfl (hb hby at_140) rfl (decide_eq_true rfl) (by decide) (by decide) (XS.iconst X193.here hx rfl (hb hby at_143) (XS.goto X193.here hx rfl (pc0 := 144) (pc' := 148) rfl (hb hby at_144) (by decide) (by decide) k))))) ?_
          refine own_retW X193 hS (by rw [hh193]; exact (Nat.le_refl _)) (v := some (.int (1 : Int32))) (fun h => by rw [Bd.returns] at h; cases h) Bd.notSynchronized (fun fs hr => retN X193 hx (t := .boolean) Bd.returns (by simp) (hb hby at_148) hr) ?_ (by decide) (by decide)
          show Q0 Z B p0 p1 cs fm wN wT wM wB wY wO h0 n0 _ T193.heap T193.vm _
          exact ⟨rfl, N193⟩
        · refine own_goW (T' := s₁) (f' := (mkF m 78 #[.val (.int p0), .val (.int p1), .val (.int zm), .val (.int (11 : Int32)), .unset] [(.int (11 : Int32))])) (fun _ k => XS.iloadN X0.here hx rfl (hb hby at_77) rfl k) ?_
          obtain ⟨_, _, ⟨T194, L194, k194, n194⟩, -, X194, hS194, hgr194, ⟨Lc194, hQ194, l194, y194, z194⟩, st194⟩ := callSS X0 hx (y := mn7) hown (mvT hZ (ow8 hw)) (mvT hZ (ow9 hw)) (mvT hZ (ow10 hw)) (mvT hZ (ow11 hw)) (by decide) (own_backS (W := 0) (rm2O l Z a0 hw [] (s.setVm s.vm) (11 : Int32) cs fm wN wT wM wB wY wO h0 n0 Z0 S_cs hcs S_fm hfm S_N S_T S_M S_B S_Y S_O I1 (fun _ _ q => by rw [hZh]; exact q) hcw hh7 (by decide) (by decide) (by decide +kernel)) hZ (ow11 hw) (ow10 hw) (by decide) (by decide)) (g := (mkF m 78 #[.val (.int p0), .val (.int p1), .val (.int zm), .val (.int (11 : Int32)), .unset] [(.int (11 : Int32))])) rfl (by rw [hml]; rfl) (argsL := [(.int (11 : Int32))]) (rest := []) (lenOf pd3 rfl) rfl (by show 2 * 0 + _ ≤ _; exact Nat.le_of_eq rfl) (hb hby at_78) (fun _ _ => ⟨rfl, e0, (by decide : 0 + 2 ≤ _), (by decide : 0 + 136 ≤ _)⟩)
          dsimp only [Pt.U, Pt.locs, Pt.cells, Pt.slots] at X194 l194 y194 z194 st194 hQ194 hS194 hgr194
          subst l194 y194 z194
          have hM194 := hS194
          obtain ⟨X194, hS, hZ, hown⟩ := rebS hS (by rw [e0]; exact (Nat.le_refl _) : _ ≤ s₁.heap.size) X194 hM194 hgr194 hZ hown
          obtain ⟨rfl, N194q, K194⟩ := hQ194
          have N194 := Fr.app N0 N194q
          have KK194 : Keep h0 T194.heap [] := Keep.trans (Keep.refl h0 []) K194 all0
          refine own_goW (T' := T194) (f' := (mkF m 135 #[.val (.int p0), .val (.int p1), .val (.int zm), .val (.int (11 : Int32)), .val (.ref wO)] [(.int (11 : Int32))])) (fun _ k => st194.trans (XS.astore X194.here hx rfl (hb hby at_81) rfl rfl (l' := #[.val (.int p0), .val (.int p1), .val (.int zm), .val (.int (11 : Int32)), .val (.ref wO)]) rfl (XS.goto X194.here hx rfl (pc0 := 83) (pc' := 134) rfl (hb hby at_83) (by decide) (by decide) (XS.iloadN X194.here hx rfl (hb hby at_134) rfl k)))) ?_
          obtain ⟨_, _, ⟨T195, L195, k195, n195⟩, -, X195, ⟨Lc195, hQ195, l195, y195, z195⟩, st195⟩ := Jvm.LawKit.callS X194 hx (y := mn5) hown (mvT hZ (ow4 hw)) (mvT hZ (ow5 hw)) (mvT hZ (ow2 hw)) (mvT hZ (ow6 hw)) (by decide) (backOf (W := 0) (rm1O l Z a0 hw [] (11 : Int32) wN wT wM wB wY wO T194.heap n0 (Nat.le_trans Z0 K194.1) (own_sta_keep S_N K194 own_ws0) (own_sta_keep S_T K194 own_ws0) (own_sta_keep S_M K194 own_ws0) (own_sta_keep S_B K194 own_ws0) (own_sta_keep S_Y K194 own_ws0) (own_sta_keep S_O K194 own_ws0) (by decide +kernel)) hZ (ow6 hw) (ow2 hw) (by decide) (by decide)) (g := (mkF m 135 #[.val (.int p0), .val (.int p1), .val (.int zm), .val (.int (11 : Int32)), .val (.ref wO)] [(.int (11 : Int32))])) rfl (by rw [hml]; rfl) (argsL := [(.int (11 : Int32))]) (rest := []) (lenOf pd3 rfl) rfl (by show 2 * 0 + _ ≤ _; exact Nat.le_of_eq rfl) (hb hby at_135) (fun _ _ => ⟨rfl, rfl, (by decide : 2 + 0 ≤ _), (by decide : 136 + 0 ≤ _)⟩)
          dsimp only [Pt.U, Pt.locs, Pt.cells, Pt.slots] at X195 l195 y195 z195 st195 hQ195
          subst l195 y195 z195
          obtain ⟨rfl, N195q, hh195⟩ := hQ195
          have N195 := Fr.app N194 N195q
          refine own_goW (T' := T195) (f' := (mkF m 148 #[.val (.int p0), .val (.int p1), .val (.int zm), .val (.int (11 : Int32)), .val (.ref wO)] [(.int (1 : Int32))])) (fun _ k => st195 _ (XS.aload X195.here hx rfl (hb hby at_138) rfl rfl (Jvm.RoadKit.acmp (g := (mkF m 140 #[.val (.int p0), .val (.int p1), .val (.int zm), .val (.int (11 : Int32)), .val (.ref wO)] [(.ref wO), (.ref wO)])) X195 hx rfl rfl rfl (pc0 := 140) (pc' := 143) (same := true) rfl (hb hby at_140) rfl (decide_eq_true rfl) (by decide) (by decide) (XS.iconst X195.here hx rfl (hb hby at_143) (XS.goto X195.here hx rfl (pc0 := 144) (pc' := 148) rfl (hb hby at_144) (by decide) (by decide) k))))) ?_
          refine own_retW X195 hS (by rw [hh195]; exact (Nat.le_refl _)) (v := some (.int (1 : Int32))) (fun h => by rw [Bd.returns] at h; cases h) Bd.notSynchronized (fun fs hr => retN X195 hx (t := .boolean) Bd.returns (by simp) (hb hby at_148) hr) ?_ (by decide) (by decide)
          show Q0 Z B p0 p1 cs fm wN wT wM wB wY wO h0 n0 _ T195.heap T195.vm _
          exact ⟨rfl, N195⟩
        · refine own_goW (T' := s₁) (f' := (mkF m 78 #[.val (.int p0), .val (.int p1), .val (.int zm), .val (.int (12 : Int32)), .unset] [(.int (12 : Int32))])) (fun _ k => XS.iloadN X0.here hx rfl (hb hby at_77) rfl k) ?_
          obtain ⟨_, _, ⟨T196, L196, k196, n196⟩, -, X196, hS196, hgr196, ⟨Lc196, hQ196, l196, y196, z196⟩, st196⟩ := callSS X0 hx (y := mn7) hown (mvT hZ (ow8 hw)) (mvT hZ (ow9 hw)) (mvT hZ (ow10 hw)) (mvT hZ (ow11 hw)) (by decide) (own_backS (W := 0) (rm2T l Z a0 hw [] (s.setVm s.vm) (12 : Int32) cs fm wN wT wM wB wY wO h0 n0 Z0 S_cs hcs S_fm hfm S_N S_T S_M S_B S_Y S_O I1 (fun _ _ q => by rw [hZh]; exact q) hcw hh7 (by decide) (by decide) (by decide +kernel)) hZ (ow11 hw) (ow10 hw) (by decide) (by decide)) (g := (mkF m 78 #[.val (.int p0), .val (.int p1), .val (.int zm), .val (.int (12 : Int32)), .unset] [(.int (12 : Int32))])) rfl (by rw [hml]; rfl) (argsL := [(.int (12 : Int32))]) (rest := []) (lenOf pd3 rfl) rfl (by show 2 * 0 + _ ≤ _; exact Nat.le_of_eq rfl) (hb hby at_78) (fun _ _ => ⟨rfl, e0, (by decide : 0 + 2 ≤ _), (by decide : 0 + 136 ≤ _)⟩)
          dsimp only [Pt.U, Pt.locs, Pt.cells, Pt.slots] at X196 l196 y196 z196 st196 hQ196 hS196 hgr196
          subst l196 y196 z196
          have hM196 := hS196
          obtain ⟨X196, hS, hZ, hown⟩ := rebS hS (by rw [e0]; exact (Nat.le_refl _) : _ ≤ s₁.heap.size) X196 hM196 hgr196 hZ hown
          obtain ⟨rfl, N196q, K196⟩ := hQ196
          have N196 := Fr.app N0 N196q
          have KK196 : Keep h0 T196.heap [] := Keep.trans (Keep.refl h0 []) K196 all0
          refine own_goW (T' := T196) (f' := (mkF m 135 #[.val (.int p0), .val (.int p1), .val (.int zm), .val (.int (12 : Int32)), .val (.ref wT)] [(.int (12 : Int32))])) (fun _ k => st196.trans (XS.astore X196.here hx rfl (hb hby at_81) rfl rfl (l' := #[.val (.int p0), .val (.int p1), .val (.int zm), .val (.int (12 : Int32)), .val (.ref wT)]) rfl (XS.goto X196.here hx rfl (pc0 := 83) (pc' := 134) rfl (hb hby at_83) (by decide) (by decide) (XS.iloadN X196.here hx rfl (hb hby at_134) rfl k)))) ?_
          obtain ⟨_, _, ⟨T197, L197, k197, n197⟩, -, X197, ⟨Lc197, hQ197, l197, y197, z197⟩, st197⟩ := Jvm.LawKit.callS X196 hx (y := mn5) hown (mvT hZ (ow4 hw)) (mvT hZ (ow5 hw)) (mvT hZ (ow2 hw)) (mvT hZ (ow6 hw)) (by decide) (backOf (W := 0) (rm1T l Z a0 hw [] (12 : Int32) wN wT wM wB wY wO T196.heap n0 (Nat.le_trans Z0 K196.1) (own_sta_keep S_N K196 own_ws0) (own_sta_keep S_T K196 own_ws0) (own_sta_keep S_M K196 own_ws0) (own_sta_keep S_B K196 own_ws0) (own_sta_keep S_Y K196 own_ws0) (own_sta_keep S_O K196 own_ws0) (by decide +kernel)) hZ (ow6 hw) (ow2 hw) (by decide) (by decide)) (g := (mkF m 135 #[.val (.int p0), .val (.int p1), .val (.int zm), .val (.int (12 : Int32)), .val (.ref wT)] [(.int (12 : Int32))])) rfl (by rw [hml]; rfl) (argsL := [(.int (12 : Int32))]) (rest := []) (lenOf pd3 rfl) rfl (by show 2 * 0 + _ ≤ _; exact Nat.le_of_eq rfl) (hb hby at_135) (fun _ _ => ⟨rfl, rfl, (by decide : 2 + 0 ≤ _), (by decide : 136 + 0 ≤ _)⟩)
          dsimp only [Pt.U, Pt.locs, Pt.cells, Pt.slots] at X197 l197 y197 z197 st197 hQ197
          subst l197 y197 z197
          obtain ⟨rfl, N197q, hh197⟩ := hQ197
          have N197 := Fr.app N196 N197q
          refine own_goW (T' := T197) (f' := (mkF m 148 #[.val (.int p0), .val (.int p1), .val (.int zm), .val (.int (12 : Int32)), .val (.ref wT)] [(.int (1 : Int32))])) (fun _ k => st197 _ (XS.aload X197.here hx rfl (hb hby at_138) rfl rfl (Jvm.RoadKit.acmp (g := (mkF m 140 #[.val (.int p0), .val (.int p1), .val (.int zm), .val (.int (12 : Int32)), .val (.ref wT)] [(.ref wT), (.ref wT)])) X197 hx rfl rfl rfl (pc0 := 140) (pc' := 143) (same := true) rfl (hb hby at_140) rfl (decide_eq_true rfl) (by decide) (by decide) (XS.iconst X197.here hx rfl (hb hby at_143) (XS.goto X197.here hx rfl (pc0 := 144) (pc' := 148) rfl (hb hby at_144) (by decide) (by decide) k))))) ?_
          refine own_retW X197 hS (by rw [hh197]; exact (Nat.le_refl _)) (v := some (.int (1 : Int32))) (fun h => by rw [Bd.returns] at h; cases h) Bd.notSynchronized (fun fs hr => retN X197 hx (t := .boolean) Bd.returns (by simp) (hb hby at_148) hr) ?_ (by decide) (by decide)
          show Q0 Z B p0 p1 cs fm wN wT wM wB wY wO h0 n0 _ T197.heap T197.vm _
          exact ⟨rfl, N197⟩
        · refine own_goW (T' := s₁) (f' := (mkF m 78 #[.val (.int p0), .val (.int p1), .val (.int zm), .val (.int (13 : Int32)), .unset] [(.int (13 : Int32))])) (fun _ k => XS.iloadN X0.here hx rfl (hb hby at_77) rfl k) ?_
          obtain ⟨_, _, ⟨T198, L198, k198, n198⟩, -, X198, hS198, hgr198, ⟨Lc198, hQ198, l198, y198, z198⟩, st198⟩ := callSS X0 hx (y := mn7) hown (mvT hZ (ow8 hw)) (mvT hZ (ow9 hw)) (mvT hZ (ow10 hw)) (mvT hZ (ow11 hw)) (by decide) (own_backS (W := 0) (rm2O l Z a0 hw [] (s.setVm s.vm) (13 : Int32) cs fm wN wT wM wB wY wO h0 n0 Z0 S_cs hcs S_fm hfm S_N S_T S_M S_B S_Y S_O I1 (fun _ _ q => by rw [hZh]; exact q) hcw hh7 (by decide) (by decide) (by decide +kernel)) hZ (ow11 hw) (ow10 hw) (by decide) (by decide)) (g := (mkF m 78 #[.val (.int p0), .val (.int p1), .val (.int zm), .val (.int (13 : Int32)), .unset] [(.int (13 : Int32))])) rfl (by rw [hml]; rfl) (argsL := [(.int (13 : Int32))]) (rest := []) (lenOf pd3 rfl) rfl (by show 2 * 0 + _ ≤ _; exact Nat.le_of_eq rfl) (hb hby at_78) (fun _ _ => ⟨rfl, e0, (by decide : 0 + 2 ≤ _), (by decide : 0 + 136 ≤ _)⟩)
          dsimp only [Pt.U, Pt.locs, Pt.cells, Pt.slots] at X198 l198 y198 z198 st198 hQ198 hS198 hgr198
          subst l198 y198 z198
          have hM198 := hS198
          obtain ⟨X198, hS, hZ, hown⟩ := rebS hS (by rw [e0]; exact (Nat.le_refl _) : _ ≤ s₁.heap.size) X198 hM198 hgr198 hZ hown
          obtain ⟨rfl, N198q, K198⟩ := hQ198
          have N198 := Fr.app N0 N198q
          have KK198 : Keep h0 T198.heap [] := Keep.trans (Keep.refl h0 []) K198 all0
          refine own_goW (T' := T198) (f' := (mkF m 135 #[.val (.int p0), .val (.int p1), .val (.int zm), .val (.int (13 : Int32)), .val (.ref wO)] [(.int (13 : Int32))])) (fun _ k => st198.trans (XS.astore X198.here hx rfl (hb hby at_81) rfl rfl (l' := #[.val (.int p0), .val (.int p1), .val (.int zm), .val (.int (13 : Int32)), .val (.ref wO)]) rfl (XS.goto X198.here hx rfl (pc0 := 83) (pc' := 134) rfl (hb hby at_83) (by decide) (by decide) (XS.iloadN X198.here hx rfl (hb hby at_134) rfl k)))) ?_
          obtain ⟨_, _, ⟨T199, L199, k199, n199⟩, -, X199, ⟨Lc199, hQ199, l199, y199, z199⟩, st199⟩ := Jvm.LawKit.callS X198 hx (y := mn5) hown (mvT hZ (ow4 hw)) (mvT hZ (ow5 hw)) (mvT hZ (ow2 hw)) (mvT hZ (ow6 hw)) (by decide) (backOf (W := 0) (rm1O l Z a0 hw [] (13 : Int32) wN wT wM wB wY wO T198.heap n0 (Nat.le_trans Z0 K198.1) (own_sta_keep S_N K198 own_ws0) (own_sta_keep S_T K198 own_ws0) (own_sta_keep S_M K198 own_ws0) (own_sta_keep S_B K198 own_ws0) (own_sta_keep S_Y K198 own_ws0) (own_sta_keep S_O K198 own_ws0) (by decide +kernel)) hZ (ow6 hw) (ow2 hw) (by decide) (by decide)) (g := (mkF m 135 #[.val (.int p0), .val (.int p1), .val (.int zm), .val (.int (13 : Int32)), .val (.ref wO)] [(.int (13 : Int32))])) rfl (by rw [hml]; rfl) (argsL := [(.int (13 : Int32))]) (rest := []) (lenOf pd3 rfl) rfl (by show 2 * 0 + _ ≤ _; exact Nat.le_of_eq rfl) (hb hby at_135) (fun _ _ => ⟨rfl, rfl, (by decide : 2 + 0 ≤ _), (by decide : 136 + 0 ≤ _)⟩)
          dsimp only [Pt.U, Pt.locs, Pt.cells, Pt.slots] at X199 l199 y199 z199 st199 hQ199
          subst l199 y199 z199
          obtain ⟨rfl, N199q, hh199⟩ := hQ199
          have N199 := Fr.app N198 N199q
          refine own_goW (T' := T199) (f' := (mkF m 148 #[.val (.int p0), .val (.int p1), .val (.int zm), .val (.int (13 : Int32)), .val (.ref wO)] [(.int (1 : Int32))])) (fun _ k => st199 _ (XS.aload X199.here hx rfl (hb hby at_138) rfl rfl (Jvm.RoadKit.acmp (g := (mkF m 140 #[.val (.int p0), .val (.int p1), .val (.int zm), .val (.int (13 : Int32)), .val (.ref wO)] [(.ref wO), (.ref wO)])) X199 hx rfl rfl rfl (pc0 := 140) (pc' := 143) (same := true) rfl (hb hby at_140) rfl (decide_eq_true rfl) (by decide) (by decide) (XS.iconst X199.here hx rfl (hb hby at_143) (XS.goto X199.here hx rfl (pc0 := 144) (pc' := 148) rfl (hb hby at_144) (by decide) (by decide) k))))) ?_
          refine own_retW X199 hS (by rw [hh199]; exact (Nat.le_refl _)) (v := some (.int (1 : Int32))) (fun h => by rw [Bd.returns] at h; cases h) Bd.notSynchronized (fun fs hr => retN X199 hx (t := .boolean) Bd.returns (by simp) (hb hby at_148) hr) ?_ (by decide) (by decide)
          show Q0 Z B p0 p1 cs fm wN wT wM wB wY wO h0 n0 _ T199.heap T199.vm _
          exact ⟨rfl, N199⟩
        · refine own_goW (T' := s₁) (f' := (mkF m 78 #[.val (.int p0), .val (.int p1), .val (.int zm), .val (.int (14 : Int32)), .unset] [(.int (14 : Int32))])) (fun _ k => XS.iloadN X0.here hx rfl (hb hby at_77) rfl k) ?_
          obtain ⟨_, _, ⟨T200, L200, k200, n200⟩, -, X200, hS200, hgr200, ⟨Lc200, hQ200, l200, y200, z200⟩, st200⟩ := callSS X0 hx (y := mn7) hown (mvT hZ (ow8 hw)) (mvT hZ (ow9 hw)) (mvT hZ (ow10 hw)) (mvT hZ (ow11 hw)) (by decide) (own_backS (W := 0) (rm2O l Z a0 hw [] (s.setVm s.vm) (14 : Int32) cs fm wN wT wM wB wY wO h0 n0 Z0 S_cs hcs S_fm hfm S_N S_T S_M S_B S_Y S_O I1 (fun _ _ q => by rw [hZh]; exact q) hcw hh7 (by decide) (by decide) (by decide +kernel)) hZ (ow11 hw) (ow10 hw) (by decide) (by decide)) (g := (mkF m 78 #[.val (.int p0), .val (.int p1), .val (.int zm), .val (.int (14 : Int32)), .unset] [(.int (14 : Int32))])) rfl (by rw [hml]; rfl) (argsL := [(.int (14 : Int32))]) (rest := []) (lenOf pd3 rfl) rfl (by show 2 * 0 + _ ≤ _; exact Nat.le_of_eq rfl) (hb hby at_78) (fun _ _ => ⟨rfl, e0, (by decide : 0 + 2 ≤ _), (by decide : 0 + 136 ≤ _)⟩)
          dsimp only [Pt.U, Pt.locs, Pt.cells, Pt.slots] at X200 l200 y200 z200 st200 hQ200 hS200 hgr200
          subst l200 y200 z200
          have hM200 := hS200
          obtain ⟨X200, hS, hZ, hown⟩ := rebS hS (by rw [e0]; exact (Nat.le_refl _) : _ ≤ s₁.heap.size) X200 hM200 hgr200 hZ hown
          obtain ⟨rfl, N200q, K200⟩ := hQ200
          have N200 := Fr.app N0 N200q
          have KK200 : Keep h0 T200.heap [] := Keep.trans (Keep.refl h0 []) K200 all0
          refine own_goW (T' := T200) (f' := (mkF m 135 #[.val (.int p0), .val (.int p1), .val (.int zm), .val (.int (14 : Int32)), .val (.ref wO)] [(.int (14 : Int32))])) (fun _ k => st200.trans (XS.astore X200.here hx rfl (hb hby at_81) rfl rfl (l' := #[.val (.int p0), .val (.int p1), .val (.int zm), .val (.int (14 : Int32)), .val (.ref wO)]) rfl (XS.goto X200.here hx rfl (pc0 := 83) (pc' := 134) rfl (hb hby at_83) (by decide) (by decide) (XS.iloadN X200.here hx rfl (hb hby at_134) rfl k)))) ?_
          obtain ⟨_, _, ⟨T201, L201, k201, n201⟩, -, X201, ⟨Lc201, hQ201, l201, y201, z201⟩, st201⟩ := Jvm.LawKit.callS X200 hx (y := mn5) hown (mvT hZ (ow4 hw)) (mvT hZ (ow5 hw)) (mvT hZ (ow2 hw)) (mvT hZ (ow6 hw)) (by decide) (backOf (W := 0) (rm1O l Z a0 hw [] (14 : Int32) wN wT wM wB wY wO T200.heap n0 (Nat.le_trans Z0 K200.1) (own_sta_keep S_N K200 own_ws0) (own_sta_keep S_T K200 own_ws0) (own_sta_keep S_M K200 own_ws0) (own_sta_keep S_B K200 own_ws0) (own_sta_keep S_Y K200 own_ws0) (own_sta_keep S_O K200 own_ws0) (by decide +kernel)) hZ (ow6 hw) (ow2 hw) (by decide) (by decide)) (g := (mkF m 135 #[.val (.int p0), .val (.int p1), .val (.int zm), .val (.int (14 : Int32)), .val (.ref wO)] [(.int (14 : Int32))])) rfl (by rw [hml]; rfl) (argsL := [(.int (14 : Int32))]) (rest := []) (lenOf pd3 rfl) rfl (by show 2 * 0 + _ ≤ _; exact Nat.le_of_eq rfl) (hb hby at_135) (fun _ _ => ⟨rfl, rfl, (by decide : 2 + 0 ≤ _), (by decide : 136 + 0 ≤ _)⟩)
          dsimp only [Pt.U, Pt.locs, Pt.cells, Pt.slots] at X201 l201 y201 z201 st201 hQ201
          subst l201 y201 z201
          obtain ⟨rfl, N201q, hh201⟩ := hQ201
          have N201 := Fr.app N200 N201q
          refine own_goW (T' := T201) (f' := (mkF m 148 #[.val (.int p0), .val (.int p1), .val (.int zm), .val (.int (14 : Int32)), .val (.ref wO)] [(.int (1 : Int32))])) (fun _ k => st201 _ (XS.aload X201.here hx rfl (hb hby at_138) rfl rfl (Jvm.RoadKit.acmp (g := (mkF m 140 #[.val (.int p0), .val (.int p1), .val (.int zm), .val (.int (14 : Int32)), .val (.ref wO)] [(.ref wO), (.ref wO)])) X201 hx rfl rfl rfl (pc0 := 140) (pc' := 143) (same := true) rfl (hb hby at_140) rfl (decide_eq_true rfl) (by decide) (by decide) (XS.iconst X201.here hx rfl (hb hby at_143) (XS.goto X201.here hx rfl (pc0 := 144) (pc' := 148) rfl (hb hby at_144) (by decide) (by decide) k))))) ?_
          refine own_retW X201 hS (by rw [hh201]; exact (Nat.le_refl _)) (v := some (.int (1 : Int32))) (fun h => by rw [Bd.returns] at h; cases h) Bd.notSynchronized (fun fs hr => retN X201 hx (t := .boolean) Bd.returns (by simp) (hb hby at_148) hr) ?_ (by decide) (by decide)
          show Q0 Z B p0 p1 cs fm wN wT wM wB wY wO h0 n0 _ T201.heap T201.vm _
          exact ⟨rfl, N201⟩
        · refine own_goW (T' := s₁) (f' := (mkF m 78 #[.val (.int p0), .val (.int p1), .val (.int zm), .val (.int (15 : Int32)), .unset] [(.int (15 : Int32))])) (fun _ k => XS.iloadN X0.here hx rfl (hb hby at_77) rfl k) ?_
          obtain ⟨_, _, ⟨T202, L202, k202, n202⟩, -, X202, hS202, hgr202, ⟨Lc202, hQ202, l202, y202, z202⟩, st202⟩ := callSS X0 hx (y := mn7) hown (mvT hZ (ow8 hw)) (mvT hZ (ow9 hw)) (mvT hZ (ow10 hw)) (mvT hZ (ow11 hw)) (by decide) (own_backS (W := 0) (rm2O l Z a0 hw [] (s.setVm s.vm) (15 : Int32) cs fm wN wT wM wB wY wO h0 n0 Z0 S_cs hcs S_fm hfm S_N S_T S_M S_B S_Y S_O I1 (fun _ _ q => by rw [hZh]; exact q) hcw hh7 (by decide) (by decide) (by decide +kernel)) hZ (ow11 hw) (ow10 hw) (by decide) (by decide)) (g := (mkF m 78 #[.val (.int p0), .val (.int p1), .val (.int zm), .val (.int (15 : Int32)), .unset] [(.int (15 : Int32))])) rfl (by rw [hml]; rfl) (argsL := [(.int (15 : Int32))]) (rest := []) (lenOf pd3 rfl) rfl (by show 2 * 0 + _ ≤ _; exact Nat.le_of_eq rfl) (hb hby at_78) (fun _ _ => ⟨rfl, e0, (by decide : 0 + 2 ≤ _), (by decide : 0 + 136 ≤ _)⟩)
          dsimp only [Pt.U, Pt.locs, Pt.cells, Pt.slots] at X202 l202 y202 z202 st202 hQ202 hS202 hgr202
          subst l202 y202 z202
          have hM202 := hS202
          obtain ⟨X202, hS, hZ, hown⟩ := rebS hS (by rw [e0]; exact (Nat.le_refl _) : _ ≤ s₁.heap.size) X202 hM202 hgr202 hZ hown
          obtain ⟨rfl, N202q, K202⟩ := hQ202
          have N202 := Fr.app N0 N202q
          have KK202 : Keep h0 T202.heap [] := Keep.trans (Keep.refl h0 []) K202 all0
          refine own_goW (T' := T202) (f' := (mkF m 135 #[.val (.int p0), .val (.int p1), .val (.int zm), .val (.int (15 : Int32)), .val (.ref wO)] [(.int (15 : Int32))])) (fun _ k => st202.trans (XS.astore X202.here hx rfl (hb hby at_81) rfl rfl (l' := #[.val (.int p0), .val (.int p1), .val (.int zm), .val (.int (15 : Int32)), .val (.ref wO)]) rfl (XS.goto X202.here hx rfl (pc0 := 83) (pc' := 134) rfl (hb hby at_83) (by decide) (by decide) (XS.iloadN X202.here hx rfl (hb hby at_134) rfl k)))) ?_
          obtain ⟨_, _, ⟨T203, L203, k203, n203⟩, -, X203, ⟨Lc203, hQ203, l203, y203, z203⟩, st203⟩ := Jvm.LawKit.callS X202 hx (y := mn5) hown (mvT hZ (ow4 hw)) (mvT hZ (ow5 hw)) (mvT hZ (ow2 hw)) (mvT hZ (ow6 hw)) (by decide) (backOf (W := 0) (rm1O l Z a0 hw [] (15 : Int32) wN wT wM wB wY wO T202.heap n0 (Nat.le_trans Z0 K202.1) (own_sta_keep S_N K202 own_ws0) (own_sta_keep S_T K202 own_ws0) (own_sta_keep S_M K202 own_ws0) (own_sta_keep S_B K202 own_ws0) (own_sta_keep S_Y K202 own_ws0) (own_sta_keep S_O K202 own_ws0) (by decide +kernel)) hZ (ow6 hw) (ow2 hw) (by decide) (by decide)) (g := (mkF m 135 #[.val (.int p0), .val (.int p1), .val (.int zm), .val (.int (15 : Int32)), .val (.ref wO)] [(.int (15 : Int32))])) rfl (by rw [hml]; rfl) (argsL := [(.int (15 : Int32))]) (rest := []) (lenOf pd3 rfl) rfl (by show 2 * 0 + _ ≤ _; exact Nat.le_of_eq rfl) (hb hby at_135) (fun _ _ => ⟨rfl, rfl, (by decide : 2 + 0 ≤ _), (by decide : 136 + 0 ≤ _)⟩)
          dsimp only [Pt.U, Pt.locs, Pt.cells, Pt.slots] at X203 l203 y203 z203 st203 hQ203
          subst l203 y203 z203
          obtain ⟨rfl, N203q, hh203⟩ := hQ203
          have N203 := Fr.app N202 N203q
          refine own_goW (T' := T203) (f' := (mkF m 148 #[.val (.int p0), .val (.int p1), .val (.int zm), .val (.int (15 : Int32)), .val (.ref wO)] [(.int (1 : Int32))])) (fun _ k => st203 _ (XS.aload X203.here hx rfl (hb hby at_138) rfl rfl (Jvm.RoadKit.acmp (g := (mkF m 140 #[.val (.int p0), .val (.int p1), .val (.int zm), .val (.int (15 : Int32)), .val (.ref wO)] [(.ref wO), (.ref wO)])) X203 hx rfl rfl rfl (pc0 := 140) (pc' := 143) (same := true) rfl (hb hby at_140) rfl (decide_eq_true rfl) (by decide) (by decide) (XS.iconst X203.here hx rfl (hb hby at_143) (XS.goto X203.here hx rfl (pc0 := 144) (pc' := 148) rfl (hb hby at_144) (by decide) (by decide) k))))) ?_
          refine own_retW X203 hS (by rw [hh203]; exact (Nat.le_refl _)) (v := some (.int (1 : Int32))) (fun h => by rw [Bd.returns] at h; cases h) Bd.notSynchronized (fun fs hr => retN X203 hx (t := .boolean) Bd.returns (by simp) (hb hby at_148) hr) ?_ (by decide) (by decide)
          show Q0 Z B p0 p1 cs fm wN wT wM wB wY wO h0 n0 _ T203.heap T203.vm _
          exact ⟨rfl, N203⟩
        · refine own_goW (T' := s₁) (f' := (mkF m 78 #[.val (.int p0), .val (.int p1), .val (.int zm), .val (.int (16 : Int32)), .unset] [(.int (16 : Int32))])) (fun _ k => XS.iloadN X0.here hx rfl (hb hby at_77) rfl k) ?_
          obtain ⟨_, _, ⟨T204, L204, k204, n204⟩, -, X204, hS204, hgr204, ⟨Lc204, hQ204, l204, y204, z204⟩, st204⟩ := callSS X0 hx (y := mn7) hown (mvT hZ (ow8 hw)) (mvT hZ (ow9 hw)) (mvT hZ (ow10 hw)) (mvT hZ (ow11 hw)) (by decide) (own_backS (W := 0) (rm2B l Z a0 hw [] (s.setVm s.vm) (16 : Int32) cs fm wN wT wM wB wY wO h0 n0 Z0 S_cs hcs S_fm hfm S_N S_T S_M S_B S_Y S_O I1 (fun _ _ q => by rw [hZh]; exact q) hcw hh7 (by decide) (by decide) (by decide +kernel)) hZ (ow11 hw) (ow10 hw) (by decide) (by decide)) (g := (mkF m 78 #[.val (.int p0), .val (.int p1), .val (.int zm), .val (.int (16 : Int32)), .unset] [(.int (16 : Int32))])) rfl (by rw [hml]; rfl) (argsL := [(.int (16 : Int32))]) (rest := []) (lenOf pd3 rfl) rfl (by show 2 * 0 + _ ≤ _; exact Nat.le_of_eq rfl) (hb hby at_78) (fun _ _ => ⟨rfl, e0, (by decide : 0 + 2 ≤ _), (by decide : 0 + 136 ≤ _)⟩)
          dsimp only [Pt.U, Pt.locs, Pt.cells, Pt.slots] at X204 l204 y204 z204 st204 hQ204 hS204 hgr204
          subst l204 y204 z204
          have hM204 := hS204
          obtain ⟨X204, hS, hZ, hown⟩ := rebS hS (by rw [e0]; exact (Nat.le_refl _) : _ ≤ s₁.heap.size) X204 hM204 hgr204 hZ hown
          obtain ⟨rfl, N204q, K204⟩ := hQ204
          have N204 := Fr.app N0 N204q
          have KK204 : Keep h0 T204.heap [] := Keep.trans (Keep.refl h0 []) K204 all0
          refine own_goW (T' := T204) (f' := (mkF m 135 #[.val (.int p0), .val (.int p1), .val (.int zm), .val (.int (16 : Int32)), .val (.ref wB)] [(.int (16 : Int32))])) (fun _ k => st204.trans (XS.astore X204.here hx rfl (hb hby at_81) rfl rfl (l' := #[.val (.int p0), .val (.int p1), .val (.int zm), .val (.int (16 : Int32)), .val (.ref wB)]) rfl (XS.goto X204.here hx rfl (pc0 := 83) (pc' := 134) rfl (hb hby at_83) (by decide) (by decide) (XS.iloadN X204.here hx rfl (hb hby at_134) rfl k)))) ?_
          obtain ⟨_, _, ⟨T205, L205, k205, n205⟩, -, X205, ⟨Lc205, hQ205, l205, y205, z205⟩, st205⟩ := Jvm.LawKit.callS X204 hx (y := mn5) hown (mvT hZ (ow4 hw)) (mvT hZ (ow5 hw)) (mvT hZ (ow2 hw)) (mvT hZ (ow6 hw)) (by decide) (backOf (W := 0) (rm1B l Z a0 hw [] (16 : Int32) wN wT wM wB wY wO T204.heap n0 (Nat.le_trans Z0 K204.1) (own_sta_keep S_N K204 own_ws0) (own_sta_keep S_T K204 own_ws0) (own_sta_keep S_M K204 own_ws0) (own_sta_keep S_B K204 own_ws0) (own_sta_keep S_Y K204 own_ws0) (own_sta_keep S_O K204 own_ws0) (by decide +kernel)) hZ (ow6 hw) (ow2 hw) (by decide) (by decide)) (g := (mkF m 135 #[.val (.int p0), .val (.int p1), .val (.int zm), .val (.int (16 : Int32)), .val (.ref wB)] [(.int (16 : Int32))])) rfl (by rw [hml]; rfl) (argsL := [(.int (16 : Int32))]) (rest := []) (lenOf pd3 rfl) rfl (by show 2 * 0 + _ ≤ _; exact Nat.le_of_eq rfl) (hb hby at_135) (fun _ _ => ⟨rfl, rfl, (by decide : 2 + 0 ≤ _), (by decide : 136 + 0 ≤ _)⟩)
          dsimp only [Pt.U, Pt.locs, Pt.cells, Pt.slots] at X205 l205 y205 z205 st205 hQ205
          subst l205 y205 z205
          obtain ⟨rfl, N205q, hh205⟩ := hQ205
          have N205 := Fr.app N204 N205q
          refine own_goW (T' := T205) (f' := (mkF m 148 #[.val (.int p0), .val (.int p1), .val (.int zm), .val (.int (16 : Int32)), .val (.ref wB)] [(.int (1 : Int32))])) (fun _ k => st205 _ (XS.aload X205.here hx rfl (hb hby at_138) rfl rfl (Jvm.RoadKit.acmp (g := (mkF m 140 #[.val (.int p0), .val (.int p1), .val (.int zm), .val (.int (16 : Int32)), .val (.ref wB)] [(.ref wB), (.ref wB)])) X205 hx rfl rfl rfl (pc0 := 140) (pc' := 143) (same := true) rfl (hb hby at_140) rfl (decide_eq_true rfl) (by decide) (by decide) (XS.iconst X205.here hx rfl (hb hby at_143) (XS.goto X205.here hx rfl (pc0 := 144) (pc' := 148) rfl (hb hby at_144) (by decide) (by decide) k))))) ?_
          refine own_retW X205 hS (by rw [hh205]; exact (Nat.le_refl _)) (v := some (.int (1 : Int32))) (fun h => by rw [Bd.returns] at h; cases h) Bd.notSynchronized (fun fs hr => retN X205 hx (t := .boolean) Bd.returns (by simp) (hb hby at_148) hr) ?_ (by decide) (by decide)
          show Q0 Z B p0 p1 cs fm wN wT wM wB wY wO h0 n0 _ T205.heap T205.vm _
          exact ⟨rfl, N205⟩
  refine own_goW (T' := s₁) (f' := (mkF m 5 #[.val (.int p0), .val (.int p1), .val (.int zm), .unset, .unset] [(.int zm)])) (fun _ k => XS.iloadN X0.here hx rfl (hb hby at_4) rfl k) ?_
  by_cases hc206 : zm = (0 : Int32)
  · refine own_goW (T' := s₁) (f' := (mkF m 65 #[.val (.int p0), .val (.int p1), .val (.int zm), .val (.int p0), .unset] [])) (fun _ k => XS.ifNo X0.here hx rfl (hb hby at_5) rfl ((if0 _ _).trans (teq hc206).2) (XS.iloadN X0.here hx rfl (hb hby at_8) rfl (XS.istoreN X0.here hx rfl (hb hby at_9) rfl (l' := #[.val (.int p0), .val (.int p1), .val (.int zm), .val (.int p0), .unset]) rfl (XS.goto X0.here hx rfl (pc0 := 10) (pc' := 65) rfl (hb hby at_10) (by decide) (by decide) k)))) ?_
    exact rest1 p0
  · refine own_goW (T' := s₁) (f' := (mkF m 15 #[.val (.int p0), .val (.int p1), .val (.int zm), .unset, .unset] [(.int (1 : Int32)), (.int zm)])) (fun _ k => XS.ifYes X0.here hx rfl (pc0 := 5) (pc' := 13) rfl (hb hby at_5) rfl ((if0 _ _).trans (feq hc206).2) (by decide) (by decide) (XS.iloadN X0.here hx rfl (hb hby at_13) rfl (XS.iconst X0.here hx rfl (hb hby at_14) k))) ?_
    by_cases hc207 : zm = (1 : Int32)
    · refine own_goW (T' := s₁) (f' := (mkF m 65 #[.val (.int p0), .val (.int p1), .val (.int zm), .val (.int (p0 % (2100 : Int32))), .unset] [])) (fun _ k => XS.icmpNo X0.here hx rfl (hb hby at_15) rfl (teq hc207).2 (XS.iloadN X0.here hx rfl (hb hby at_18) rfl (XS.sipush X0.here hx rfl (hb hby at_19) (iremM X0 hx rfl (hb hby at_22) rfl (by decide) (XS.istoreN X0.here hx rfl (hb hby at_23) rfl (l' := #[.val (.int p0), .val (.int p1), .val (.int zm), .val (.int (p0 % (2100 : Int32))), .unset]) rfl (XS.goto X0.here hx rfl (pc0 := 24) (pc' := 65) rfl (hb hby at_24) (by decide) (by decide) k)))))) ?_
      exact rest1 (p0 % (2100 : Int32))
    · refine own_goW (T' := s₁) (f' := (mkF m 29 #[.val (.int p0), .val (.int p1), .val (.int zm), .unset, .unset] [(.int (2 : Int32)), (.int zm)])) (fun _ k => XS.icmpYes X0.here hx rfl (pc0 := 15) (pc' := 27) rfl (hb hby at_15) rfl (feq hc207).2 (by decide) (by decide) (XS.iloadN X0.here hx rfl (hb hby at_27) rfl (XS.iconst X0.here hx rfl (hb hby at_28) k))) ?_
      by_cases hc208 : zm = (2 : Int32)
      · refine own_goW (T' := s₁) (f' := (mkF m 65 #[.val (.int p0), .val (.int p1), .val (.int zm), .val (.int (p0 % (17 : Int32))), .unset] [])) (fun _ k => XS.icmpNo X0.here hx rfl (hb hby at_29) rfl (teq hc208).2 (XS.iloadN X0.here hx rfl (hb hby at_32) rfl (XS.bipush X0.here hx rfl (hb hby at_33) (iremM X0 hx rfl (hb hby at_35) rfl (by decide) (XS.istoreN X0.here hx rfl (hb hby at_36) rfl (l' := #[.val (.int p0), .val (.int p1), .val (.int zm), .val (.int (p0 % (17 : Int32))), .unset]) rfl (XS.goto X0.here hx rfl (pc0 := 37) (pc' := 65) rfl (hb hby at_37) (by decide) (by decide) k)))))) ?_
        exact rest1 (p0 % (17 : Int32))
      · refine own_goW (T' := s₁) (f' := (mkF m 47 #[.val (.int p0), .val (.int p1), .val (.int zm), .unset, .unset] [(.int ((p0 &&& (2147483647 : Int32)) % (16 : Int32)))])) (fun _ k => XS.icmpYes X0.here hx rfl (pc0 := 29) (pc' := 40) rfl (hb hby at_29) rfl (feq hc208).2 (by decide) (by decide) (XS.iloadN X0.here hx rfl (hb hby at_40) rfl (X0.ldcInt hx hown (mvT hZ (ow0 hw)) (g := (mkF m 41 #[.val (.int p0), .val (.int p1), .val (.int zm), .unset, .unset] [(.int p0)])) rfl (hb hby at_41) _ (XS.iand X0.here hx rfl (hb hby at_43) rfl (XS.bipush X0.here hx rfl (hb hby at_44) (iremM X0 hx rfl (hb hby at_46) rfl (by decide) k)))))) ?_
        refine own_goW (T' := s₁) (f' := (mkF m 52 #[.val (.int p0), .val (.int p1), .val (.int zm), .unset, .unset] [(.int (((p0.toUInt32 >>> ((4 : Int32) &&& 31).toUInt32).toInt32) &&& (1 : Int32))), (.int ((p0 &&& (2147483647 : Int32)) % (16 : Int32)))])) (fun _ k => XS.iloadN X0.here hx rfl (hb hby at_47) rfl (XS.iconst X0.here hx rfl (hb hby at_48) (XS.iushr X0.here hx rfl (hb hby at_49) rfl (XS.iconst X0.here hx rfl (hb hby at_50) (XS.iand X0.here hx rfl (hb hby at_51) rfl k))))) ?_
        by_cases hc209 : (((p0.toUInt32 >>> ((4 : Int32) &&& 31).toUInt32).toInt32) &&& (1 : Int32)) = (0 : Int32)
        · refine own_goW (T' := s₁) (f' := (mkF m 65 #[.val (.int p0), .val (.int p1), .val (.int zm), .val (.int (((p0 &&& (2147483647 : Int32)) % (16 : Int32)) + (85 : Int32))), .unset] [])) (fun _ k => XS.ifYes X0.here hx rfl (pc0 := 52) (pc' := 61) rfl (hb hby at_52) rfl ((if0 _ _).trans (teq hc209).1) (by decide) (by decide) (XS.bipush X0.here hx rfl (hb hby at_61) (XS.iadd X0.here hx rfl (hb hby at_63) rfl (XS.istoreN X0.here hx rfl (hb hby at_64) rfl (l' := #[.val (.int p0), .val (.int p1), .val (.int zm), .val (.int (((p0 &&& (2147483647 : Int32)) % (16 : Int32)) + (85 : Int32))), .unset]) rfl k)))) ?_
          exact rest1 (((p0 &&& (2147483647 : Int32)) % (16 : Int32)) + (85 : Int32))
        · refine own_goW (T' := s₁) (f' := (mkF m 65 #[.val (.int p0), .val (.int p1), .val (.int zm), .val (.int (((p0 &&& (2147483647 : Int32)) % (16 : Int32)) + (2000 : Int32))), .unset] [])) (fun _ k => XS.ifNo X0.here hx rfl (hb hby at_52) rfl ((if0 _ _).trans (feq hc209).1) (XS.sipush X0.here hx rfl (hb hby at_55) (XS.goto X0.here hx rfl (pc0 := 58) (pc' := 63) rfl (hb hby at_58) (by decide) (by decide) (XS.iadd X0.here hx rfl (hb hby at_63) rfl (XS.istoreN X0.here hx rfl (hb hby at_64) rfl (l' := #[.val (.int p0), .val (.int p1), .val (.int zm), .val (.int (((p0 &&& (2147483647 : Int32)) % (16 : Int32)) + (2000 : Int32))), .unset]) rfl k))))) ?_
          exact rest1 (((p0 &&& (2147483647 : Int32)) % (16 : Int32)) + (2000 : Int32))
set_option maxRecDepth 65536 in
set_option maxHeartbeats 40000000 in
theorem comes_1 {Post : Tables → Env → Array Value → State → Outcome → State → Prop} (hpost : ∀ tb e args s v u, (limb_1_1.after args s (.returned v) u = true ∧ limb_1_2.after args s (.returned v) u = true ∧ True) → ReturnedEndW s (.returned v) u (Jvm.fieldLocs frame_1_writes args s ++ Jvm.arrayLocs frame_1_arrays args s ++ Jvm.staticLocs frame_1_statics s) 8 2112 → Post tb e args s (.returned v) u) :
    ArmFor flags0 classFile x code maxLocals ret World_1 tables_1 room_1 Calls_1 rest_1 Pre_1 Post := by
  intro l hfl _ _ p e ha hc hk s m args below hf hA hF happ hP
  obtain ⟨hcalls, hrest, hpre⟩ := hP
  obtain ⟨-, -, -, hnamed, -, -, -, hat⟩ := (Spec.applies_iff hf).mp happ
  obtain ⟨hg, hn⟩ := and_e (Cond.before_iff.mp (show (Jvm.Cond.and given_1 narrow_1).before args s = true from hpre))
  obtain ⟨hg_2, hg_3⟩ := and_e hg
  obtain ⟨hg_4, hg_5⟩ := and_e hg_3
  obtain ⟨w0, w1, rfl⟩ : ∃ w0 w1 : Value, args = #[w0, w1] := by
    have hs : args.size = 2 := by simpa [Cond.value, given_1] using hg_2
    obtain ⟨L⟩ := args
    match L, hs with
    | [w0, w1], _ => exact ⟨w0, w1, rfl⟩
  have hw := fun d (hd : d ∈ tables_1) => atoms_spec (ws := Jvm.Cond.code x code maxLocals ret :: tables_1) hat d (List.mem_cons_of_mem _ hd)
  have hfit : Fit s := fun {y c} hc i hi => by
    obtain ⟨ha, rfl⟩ := Array.getElem?_eq_some_iff.mp hc
    have q := List.all_eq_true.mp ((Array.all_eq_true_iff_forall_mem.mp hF) _ (Array.getElem_mem ha)) i (List.mem_range.mpr hi)
    simpa [Array.getElem?_eq_getElem hi] using q
  obtain ⟨hsets, hown0⟩ := atoms_of _ (rest_1_c_eq ▸ (show rest_1_c.before _ s = true from hrest))
  have hr0 := Cond.before_iff.mp hown0
  obtain ⟨i0, ei0⟩ := is_v hg_4
  obtain rfl : w0 = (.int i0) := Option.some.inj ei0
  obtain ⟨i1, ei1⟩ := is_v hg_5
  obtain rfl : w1 = (.int i1) := Option.some.inj ei1
  obtain ⟨hn_2, hn_3⟩ := and_e hn
  obtain ⟨hn_4, hn_5⟩ := and_e hn_3
  obtain ⟨hn_6, hn_7⟩ := and_e hn_5
  obtain ⟨hn_8, hn_9⟩ := and_e hn_7
  obtain ⟨hn_10, hn_11⟩ := and_e hn_9
  obtain ⟨w_OTHER, ev_OTHER⟩ := exa_v hn_2
  have E_OTHER : Exa s s.heap w_OTHER "com/example/tuple/tuple/model/Kind" := Exa.start ev_OTHER hn_2
  have S_OTHER : Sta s s.heap "com/example/tuple/tuple/model/Kind" "OTHER" "Lcom/example/tuple/tuple/model/Kind;" (.ref w_OTHER) := Sta.start ev_OTHER (Or.inr ⟨(ow2 hw), (ow3 hw)⟩)
  obtain ⟨w_NUMBER, ev_NUMBER⟩ := exa_v hn_4
  have E_NUMBER : Exa s s.heap w_NUMBER "com/example/tuple/tuple/model/Kind" := Exa.start ev_NUMBER hn_4
  have S_NUMBER : Sta s s.heap "com/example/tuple/tuple/model/Kind" "NUMBER" "Lcom/example/tuple/tuple/model/Kind;" (.ref w_NUMBER) := Sta.start ev_NUMBER (Or.inr ⟨(ow2 hw), (ow49 hw)⟩)
  obtain ⟨w_TEMPORAL, ev_TEMPORAL⟩ := exa_v hn_6
  have E_TEMPORAL : Exa s s.heap w_TEMPORAL "com/example/tuple/tuple/model/Kind" := Exa.start ev_TEMPORAL hn_6
  have S_TEMPORAL : Sta s s.heap "com/example/tuple/tuple/model/Kind" "TEMPORAL" "Lcom/example/tuple/tuple/model/Kind;" (.ref w_TEMPORAL) := Sta.start ev_TEMPORAL (Or.inr ⟨(ow2 hw), (ow52 hw)⟩)
  obtain ⟨w_TEXT, ev_TEXT⟩ := exa_v hn_8
  have E_TEXT : Exa s s.heap w_TEXT "com/example/tuple/tuple/model/Kind" := Exa.start ev_TEXT hn_8
  have S_TEXT : Sta s s.heap "com/example/tuple/tuple/model/Kind" "TEXT" "Lcom/example/tuple/tuple/model/Kind;" (.ref w_TEXT) := Sta.start ev_TEXT (Or.inr ⟨(ow2 hw), (ow55 hw)⟩)
  obtain ⟨w_BINARY, ev_BINARY⟩ := exa_v hn_10
  have E_BINARY : Exa s s.heap w_BINARY "com/example/tuple/tuple/model/Kind" := Exa.start ev_BINARY hn_10
  have S_BINARY : Sta s s.heap "com/example/tuple/tuple/model/Kind" "BINARY" "Lcom/example/tuple/tuple/model/Kind;" (.ref w_BINARY) := Sta.start ev_BINARY (Or.inr ⟨(ow2 hw), (ow62 hw)⟩)
  obtain ⟨w_BOOLEAN, ev_BOOLEAN⟩ := exa_v hn_11
  have E_BOOLEAN : Exa s s.heap w_BOOLEAN "com/example/tuple/tuple/model/Kind" := Exa.start ev_BOOLEAN hn_11
  have S_BOOLEAN : Sta s s.heap "com/example/tuple/tuple/model/Kind" "BOOLEAN" "Lcom/example/tuple/tuple/model/Kind;" (.ref w_BOOLEAN) := Sta.start ev_BOOLEAN (Or.inr ⟨(ow2 hw), (ow65 hw)⟩)
  obtain ⟨cs, ecs⟩ := is_v (Cond.before_iff.mp (hsets _ (List.mem_of_getElem? (i := 1) rfl)))
  have S_cs : Sta s s.heap "java/lang/String" "COMPACT_STRINGS" "Z" (.int cs) := Sta.start ecs (Or.inl (hsets _ (List.mem_of_getElem? (i := 0) rfl)))
  have hcw := hsets _ (List.mem_of_getElem? (i := 2) rfl)
  have hcs : ¬ (cs = (0 : Int32)) := own_ne0 ecs hcw
  obtain ⟨fm, efm, hfm⟩ := isR_v (Cond.before_iff.mp (hsets _ (List.mem_of_getElem? (i := 8) rfl)))
  have S_fm : Sta s s.heap "jdk/internal/util/Preconditions" "SIOOBE_FORMATTER" "Ljava/util/function/BiFunction;" fm := Sta.start efm (Or.inl (hsets _ (List.mem_of_getElem? (i := 7) rfl)))
  obtain ⟨n, o, h1, h2, h3, _, L, rfl, ⟨rfl, N⟩, hq⟩ := rm0 l s _ hw tables_1 s i0 i1 cs fm w_NUMBER w_TEXT w_TEMPORAL w_BOOLEAN w_BINARY w_OTHER s.heap s.heap.size (Nat.le_refl _) S_cs hcs S_fm hfm S_NUMBER S_TEXT S_TEMPORAL S_BOOLEAN S_BINARY S_OTHER hcw (hcalls.1 _ (List.mem_of_getElem? (i := 0) rfl)) (hcalls.1 _ (List.mem_of_getElem? (i := 1) rfl)) rfl rfl p e ha hc hk s m _ below hf ((Spec.applies_iff_loose hf).mp happ).1 ⟨rfl, State.Warmed39.refl s, State.WarmedH.refl s, rfl⟩ trivial
  refine ⟨n, _, h1, h2, h3, hpost _ _ _ _ _ _ ⟨Cond.after_iff.mpr rfl, Cond.after_iff.mpr (eq_i res_at (Term.int_eval (1)) rfl), trivial⟩ ⟨hq.1, hq.2.1, hq.2.2.1, (hq.2.2.2.sift fun y hy => Or.inr (N y hy)).mono (by decide) (by decide)⟩⟩
theorem main_1_1 : Claimed_1_1 := comes_1 fun _ _ _ _ _ _ h hF => ⟨h.1, hF⟩
theorem main_1_2 : Claimed_1_2 := comes_1 fun _ _ _ _ _ _ h hF => ⟨h.2.1, hF⟩
end Jvm.Pilot.@@N@@
namespace Jvm.Pilot.@@N@@
open Jvm Jvm.ClassFile Sem Op Lib Jvm.Free Jvm.Stand Jvm.Pilot.@@N@@.Jvm.D
/-! MADE BY PROGRAM (witnessworld.py) out of the Statement's table words and the real class files: 18 classes; the members and pool entries that the words name. The judged class is class 1, her method 4. -/
namespace start1
open Jvm.ClassFile
def u (s : String) : CpInfo := .utf8 (stringToUtf16 s)
/-- a pool by its gaps: so many unusable entries, then the entry; so many at the end -/
def gap : Nat → List CpInfo → List CpInfo
  | 0, r => r
  | n + 1, r => .unusable :: gap n r
def poolList (es : List (Nat × CpInfo)) (last : Nat) : List CpInfo := es.foldr (fun e r => gap e.1 (e.2 :: r)) (gap last [])
def pool (es : List (Nat × CpInfo)) (last : Nat) : Array CpInfo := ⟨poolList es last⟩
def fileOf (pool : Array CpInfo) (this : Nat) (attrs : Array Attribute := #[]) (ms : Array MethodInfo := #[]) (fl : Nat := 33) (sup : Nat := 0) (ifs : Array Nat := #[]) (fds : Array FieldInfo := #[]) : ClassFile where
  minorVersion := 0
  majorVersion := 65
  constantPool := pool
  accessFlags := fl
  thisClass := this
  superClass := sup
  interfaces := ifs
  fields := fds
  methods := ms
  attributes := attrs
def plain (name : String) (sup : Option ClassId) : Class where
  name := name
  kind := .ordinary
  loader := none
  accessFlags := 33
  super := sup
  interfaces := #[]
  cf := none
  fields := #[]
  methods := #[]
  instanceTypes := #[]
  staticTypes := #[]
  resolved := #[]
  callSites := []
  init := .initialized
  statics := none
  mirror := none

def pool0 : Array CpInfo := pool [(5, u "<init>"), (0, u "()V"), (1, .class_ 10), (1, u "java/lang/Object")] 113

def k0m0 : Method := { name := "<init>", desc := "()V", sig := { parameters := [], returnType := none }, accessFlags := 1, code := none }
/-- java/lang/Object -/
def k0 : Class := { plain "java/lang/Object" none with
  accessFlags := 33
  interfaces := #[]
  cf := some (fileOf pool0 8 #[] #[{ accessFlags := 1, nameIndex := 5, descriptorIndex := 6, attributes := #[] }] 33 0 #[] #[])
  fields := #[]
  methods := #[k0m0]
  instanceTypes := #[]
  staticTypes := #[]
  resolved := Array.replicate 124 none
  statics := none }

def pool1 : Array CpInfo := pool [(2, .class_ 4), (1, u "java/lang/Object"), (0, u "<init>"), (0, u "()V"), (0, .string 8), (0, u "TTOOOOOTOBNNYYYTOTNNNNNNNOOOTOOOB"), (0, .methodref 10 11), (0, .class_ 12), (0, .nameAndType 13 14), (0, u "java/lang/String"), (0, u "charAt"), (0, u "(I)C"), (0, .methodref 16 17), (0, .class_ 18), (0, .nameAndType 19 20), (0, u "com/example/tuple/tuple/model/KindOfSqlTypePinLaw"), (0, u "kindOf"), (0, u "(C)Lcom/example/tuple/tuple/model/Kind;"), (0, .string 22), (0, u "YTOOOOOTOMM"), (0, .fieldref 24 25), (0, .class_ 26), (0, .nameAndType 27 28), (0, u "com/example/tuple/tuple/model/Kind"), (0, u "OTHER"), (0, u "Lcom/example/tuple/tuple/model/Kind;"), (0, .fieldref 24 30), (0, .nameAndType 31 28), (0, u "NUMBER"), (0, .fieldref 24 33), (0, .nameAndType 34 28), (0, u "TEXT"), (0, .fieldref 24 36), (0, .nameAndType 37 28), (0, u "TEMPORAL"), (0, .fieldref 24 39), (0, .nameAndType 40 28), (0, u "BOOLEAN"), (0, .fieldref 24 42), (0, .nameAndType 43 28), (0, u "BINARY"), (0, .integer 2147483647), (0, .methodref 16 46), (0, .nameAndType 47 48), (0, u "low"), (0, u "(I)Lcom/example/tuple/tuple/model/Kind;"), (0, .methodref 16 50), (0, .nameAndType 51 48), (0, u "high"), (0, .methodref 24 53), (0, .nameAndType 54 48), (0, u "ofSqlType"), (3, u "law"), (0, u "(II)Z")] 2

def k1m0 : Method := { name := "<init>", desc := "()V", sig := { parameters := [], returnType := none }, accessFlags := 2, code := none }
def k1c1 : Code := { maxStack := 3, maxLocals := 1, code := method_2_code, exceptionTable := #[], attributes := #[] }
def k1m1 : Method := { name := "low", desc := "(I)Lcom/example/tuple/tuple/model/Kind;", sig := { parameters := [.int], returnType := some (.object "com/example/tuple/tuple/model/Kind") }, accessFlags := 10, code := some k1c1 }
def k1c2 : Code := { maxStack := 3, maxLocals := 1, code := method_3_code, exceptionTable := #[], attributes := #[] }
def k1m2 : Method := { name := "high", desc := "(I)Lcom/example/tuple/tuple/model/Kind;", sig := { parameters := [.int], returnType := some (.object "com/example/tuple/tuple/model/Kind") }, accessFlags := 10, code := some k1c2 }
def k1c3 : Code := { maxStack := 2, maxLocals := 2, code := method_4_code, exceptionTable := #[], attributes := #[] }
def k1m3 : Method := { name := "kindOf", desc := "(C)Lcom/example/tuple/tuple/model/Kind;", sig := { parameters := [.char], returnType := some (.object "com/example/tuple/tuple/model/Kind") }, accessFlags := 10, code := some k1c3 }
def k1c4 : Code := { maxStack := 3, maxLocals := 5, code := code, exceptionTable := #[], attributes := #[] }
def k1m4 : Method := { name := "law", desc := "(II)Z", sig := { parameters := [.int, .int], returnType := some .boolean }, accessFlags := 9, code := some k1c4 }
/-- com/example/tuple/tuple/model/KindOfSqlTypePinLaw -/
def k1 : Class := { plain "com/example/tuple/tuple/model/KindOfSqlTypePinLaw" (some 0) with
  accessFlags := 49
  interfaces := #[]
  cf := some (fileOf pool1 16 #[] #[{ accessFlags := 2, nameIndex := 5, descriptorIndex := 6, attributes := #[] }, { accessFlags := 10, nameIndex := 47, descriptorIndex := 48, attributes := #[] }, { accessFlags := 10, nameIndex := 51, descriptorIndex := 48, attributes := #[] }, { accessFlags := 10, nameIndex := 19, descriptorIndex := 20, attributes := #[] }, { accessFlags := 9, nameIndex := 58, descriptorIndex := 59, attributes := #[] }] 49 2 #[] #[])
  fields := #[]
  methods := #[k1m0, k1m1, k1m2, k1m3, k1m4]
  instanceTypes := #[]
  staticTypes := #[]
  resolved := Array.replicate 62 none
  statics := none }

def pool2 : Array CpInfo := pool [(1, .class_ 2), (0, u "java/lang/constant/Constable"), (0, .class_ 4), (0, u "java/lang/Object")] 6

/-- java/lang/constant/Constable -/
def k2 : Class := { plain "java/lang/constant/Constable" (some 0) with
  accessFlags := 1537
  interfaces := #[]
  cf := some (fileOf pool2 1 #[] #[] 1537 3 #[] #[])
  fields := #[]
  methods := #[]
  instanceTypes := #[]
  staticTypes := #[]
  resolved := Array.replicate 11 none
  statics := none }

def pool3 : Array CpInfo := pool [(1, .class_ 2), (0, u "java/lang/Comparable"), (0, .class_ 4), (0, u "java/lang/Object")] 7

/-- java/lang/Comparable -/
def k3 : Class := { plain "java/lang/Comparable" (some 0) with
  accessFlags := 1537
  interfaces := #[]
  cf := some (fileOf pool3 1 #[] #[] 1537 3 #[] #[])
  fields := #[]
  methods := #[]
  instanceTypes := #[]
  staticTypes := #[]
  resolved := Array.replicate 12 none
  statics := none }

def pool4 : Array CpInfo := pool [(1, .class_ 2), (0, u "java/io/Serializable"), (0, .class_ 4), (0, u "java/lang/Object")] 2

/-- java/io/Serializable -/
def k4 : Class := { plain "java/io/Serializable" (some 0) with
  accessFlags := 1537
  interfaces := #[]
  cf := some (fileOf pool4 1 #[] #[] 1537 3 #[] #[])
  fields := #[]
  methods := #[]
  instanceTypes := #[]
  staticTypes := #[]
  resolved := Array.replicate 7 none
  statics := none }

def pool5 : Array CpInfo := pool [(2, .class_ 4), (1, u "java/lang/Enum"), (0, u "name"), (0, u "Ljava/lang/String;"), (2, u "ordinal"), (0, u "I"), (1, .class_ 14), (1, u "java/lang/Object"), (4, u "hash"), (86, .class_ 108), (1, u "java/lang/Enum$EnumDesc"), (2, .class_ 112), (0, u "java/lang/constant/Constable"), (0, .class_ 114), (0, u "java/lang/Comparable"), (0, .class_ 116), (0, u "java/io/Serializable")] 87

/-- java/lang/Enum -/
def k5 : Class := { plain "java/lang/Enum" (some 0) with
  accessFlags := 1057
  interfaces := #[2, 3, 4]
  cf := some (fileOf pool5 2 #[.nestMembers #[106]] #[] 1057 12 #[111, 113, 115] #[{ accessFlags := 18, nameIndex := 5, descriptorIndex := 6, attributes := #[] }, { accessFlags := 18, nameIndex := 9, descriptorIndex := 10, attributes := #[] }, { accessFlags := 2, nameIndex := 19, descriptorIndex := 10, attributes := #[] }])
  fields := #[{ name := "name", type := (.object "java/lang/String"), accessFlags := 18, slot := 0, constantValue := 0 }, { name := "ordinal", type := .int, accessFlags := 18, slot := 1, constantValue := 0 }, { name := "hash", type := .int, accessFlags := 2, slot := 2, constantValue := 0 }]
  methods := #[]
  instanceTypes := #[(.object "java/lang/String"), .int, .int]
  staticTypes := #[]
  resolved := Array.replicate 204 none
  statics := none }

def pool6 : Array CpInfo := pool [(1, .class_ 2), (0, u "com/example/tuple/tuple/model/Kind"), (0, .fieldref 1 4), (0, .nameAndType 5 6), (0, u "NUMBER"), (0, u "Lcom/example/tuple/tuple/model/Kind;"), (0, .fieldref 1 8), (0, .nameAndType 9 6), (0, u "TEXT"), (0, .fieldref 1 11), (0, .nameAndType 12 6), (0, u "TEMPORAL"), (0, .fieldref 1 14), (0, .nameAndType 15 6), (0, u "BOOLEAN"), (0, .fieldref 1 17), (0, .nameAndType 18 6), (0, u "BINARY"), (0, .fieldref 1 20), (0, .nameAndType 21 6), (0, u "OTHER"), (2, u "$VALUES"), (0, u "[Lcom/example/tuple/tuple/model/Kind;"), (6, .class_ 34), (1, u "java/lang/Enum"), (8, u "description"), (0, u "Ljava/lang/String;"), (61, u "ofSqlType"), (0, u "(I)Lcom/example/tuple/tuple/model/Kind;")] 11

def k6c0 : Code := { maxStack := 1, maxLocals := 1, code := prog_4_method_4_code, exceptionTable := #[], attributes := #[] }
def k6m0 : Method := { name := "ofSqlType", desc := "(I)Lcom/example/tuple/tuple/model/Kind;", sig := { parameters := [.int], returnType := some (.object "com/example/tuple/tuple/model/Kind") }, accessFlags := 8, code := some k6c0 }
/-- com/example/tuple/tuple/model/Kind -/
def k6 : Class := { plain "com/example/tuple/tuple/model/Kind" (some 5) with
  accessFlags := 16432
  interfaces := #[]
  cf := some (fileOf pool6 1 #[] #[{ accessFlags := 8, nameIndex := 106, descriptorIndex := 107, attributes := #[] }] 16432 32 #[] #[{ accessFlags := 16409, nameIndex := 5, descriptorIndex := 6, attributes := #[] }, { accessFlags := 16409, nameIndex := 9, descriptorIndex := 6, attributes := #[] }, { accessFlags := 16409, nameIndex := 12, descriptorIndex := 6, attributes := #[] }, { accessFlags := 16409, nameIndex := 15, descriptorIndex := 6, attributes := #[] }, { accessFlags := 16409, nameIndex := 18, descriptorIndex := 6, attributes := #[] }, { accessFlags := 16409, nameIndex := 21, descriptorIndex := 6, attributes := #[] }, { accessFlags := 18, nameIndex := 43, descriptorIndex := 44, attributes := #[] }, { accessFlags := 4122, nameIndex := 24, descriptorIndex := 25, attributes := #[] }])
  fields := #[{ name := "NUMBER", type := (.object "com/example/tuple/tuple/model/Kind"), accessFlags := 16409, slot := 0, constantValue := 0 }, { name := "TEXT", type := (.object "com/example/tuple/tuple/model/Kind"), accessFlags := 16409, slot := 1, constantValue := 0 }, { name := "TEMPORAL", type := (.object "com/example/tuple/tuple/model/Kind"), accessFlags := 16409, slot := 2, constantValue := 0 }, { name := "BOOLEAN", type := (.object "com/example/tuple/tuple/model/Kind"), accessFlags := 16409, slot := 3, constantValue := 0 }, { name := "BINARY", type := (.object "com/example/tuple/tuple/model/Kind"), accessFlags := 16409, slot := 4, constantValue := 0 }, { name := "OTHER", type := (.object "com/example/tuple/tuple/model/Kind"), accessFlags := 16409, slot := 5, constantValue := 0 }, { name := "description", type := (.object "java/lang/String"), accessFlags := 18, slot := 3, constantValue := 0 }, { name := "$VALUES", type := (.array (.object "com/example/tuple/tuple/model/Kind")), accessFlags := 4122, slot := 6, constantValue := 0 }]
  methods := #[k6m0]
  instanceTypes := #[(.object "java/lang/String"), .int, .int, (.object "java/lang/String")]
  staticTypes := #[(.object "com/example/tuple/tuple/model/Kind"), (.object "com/example/tuple/tuple/model/Kind"), (.object "com/example/tuple/tuple/model/Kind"), (.object "com/example/tuple/tuple/model/Kind"), (.object "com/example/tuple/tuple/model/Kind"), (.object "com/example/tuple/tuple/model/Kind"), (.array (.object "com/example/tuple/tuple/model/Kind"))]
  resolved := Array.replicate 119 none
  statics := some 0 }

def pool7 : Array CpInfo := pool [(2, .class_ 4), (1, u "java/lang/CharSequence"), (42, .class_ 48), (0, u "java/lang/CharSequence$1CodePointIterator"), (10, .class_ 60), (0, u "java/lang/CharSequence$1CharIterator"), (5, .class_ 67), (0, u "java/lang/Object")] 63

/-- java/lang/CharSequence -/
def k7 : Class := { plain "java/lang/CharSequence" (some 0) with
  accessFlags := 1537
  interfaces := #[]
  cf := some (fileOf pool7 2 #[.nestMembers #[47, 59]] #[] 1537 66 #[] #[])
  fields := #[]
  methods := #[]
  instanceTypes := #[]
  staticTypes := #[]
  resolved := Array.replicate 131 none
  statics := none }

def pool8 : Array CpInfo := pool [(1, .class_ 2), (0, u "java/lang/constant/ConstantDesc"), (0, .class_ 4), (0, u "java/lang/Object")] 32

/-- java/lang/constant/ConstantDesc -/
def k8 : Class := { plain "java/lang/constant/ConstantDesc" (some 0) with
  accessFlags := 1537
  interfaces := #[]
  cf := some (fileOf pool8 1 #[] #[] 1537 3 #[] #[])
  fields := #[]
  methods := #[]
  instanceTypes := #[]
  staticTypes := #[]
  resolved := Array.replicate 37 none
  statics := none }

def pool9 : Array CpInfo := pool [(2, .class_ 4), (1, u "java/lang/Object"), (0, u "<init>"), (0, u "()V"), (2, .fieldref 10 11), (0, .class_ 12), (0, .nameAndType 13 14), (0, u "java/lang/String"), (0, u "value"), (0, u "[B"), (0, .fieldref 10 16), (0, .nameAndType 17 18), (0, u "coder"), (0, u "B"), (2, u "hash"), (0, u "I"), (2, u "hashIsZero"), (0, u "Z"), (11, .fieldref 10 39), (0, .nameAndType 40 26), (0, u "COMPACT_STRINGS"), (66, .class_ 109), (1, u "java/lang/StringLatin1"), (32, u "()Z"), (220, u "([BI)C"), (27, u "(II)V"), (35, u "(I)C"), (64, .methodref 10 493), (0, .nameAndType 494 142), (0, u "isLatin1"), (0, .methodref 107 496), (0, .nameAndType 497 363), (0, u "charAt"), (3, u "checkIndex"), (73, .class_ 576), (0, u "java/lang/CharSequence"), (22, u "CASE_INSENSITIVE_ORDER"), (0, u "Ljava/util/Comparator;"), (452, .fieldref 1054 1055), (0, .class_ 1056), (0, .nameAndType 1057 1058), (0, u "jdk/internal/util/Preconditions"), (0, u "SIOOBE_FORMATTER"), (0, u "Ljava/util/function/BiFunction;"), (0, .methodref 1054 1060), (0, .nameAndType 501 1061), (0, u "(IILjava/util/function/BiFunction;)I"), (39, u "serialPersistentFields"), (0, u "[Ljava/io/ObjectStreamField;"), (0, .class_ 1104), (0, u "java/lang/String$CaseInsensitiveComparator"), (1, .class_ 1107), (0, u "java/io/Serializable"), (0, .class_ 1109), (0, u "java/lang/Comparable"), (0, .class_ 1111), (0, u "java/lang/constant/Constable"), (0, .class_ 1113), (0, u "java/lang/constant/ConstantDesc"), (2, u "serialVersionUID"), (0, u "J"), (3, u "REPL"), (0, u "C"), (2, u "LATIN1"), (1, u "UTF16")] 323

def k9m0 : Method := { name := "<init>", desc := "()V", sig := { parameters := [], returnType := none }, accessFlags := 1, code := none }
def k9c1 : Code := { maxStack := 2, maxLocals := 2, code := jdk_42_method_56_code, exceptionTable := #[], attributes := #[] }
def k9m1 : Method := { name := "charAt", desc := "(I)C", sig := { parameters := [.int], returnType := some .char }, accessFlags := 1, code := some k9c1 }
def k9c2 : Code := { maxStack := 1, maxLocals := 1, code := jdk_42_method_154_code, exceptionTable := #[], attributes := #[] }
def k9m2 : Method := { name := "isLatin1", desc := "()Z", sig := { parameters := [], returnType := some .boolean }, accessFlags := 0, code := some k9c2 }
def k9c3 : Code := { maxStack := 3, maxLocals := 2, code := jdk_42_method_155_code, exceptionTable := #[], attributes := #[] }
def k9m3 : Method := { name := "checkIndex", desc := "(II)V", sig := { parameters := [.int, .int], returnType := none }, accessFlags := 8, code := some k9c3 }
/-- java/lang/String -/
def k9 : Class := { plain "java/lang/String" (some 0) with
  accessFlags := 49
  interfaces := #[4, 3, 7, 2, 8]
  cf := some (fileOf pool9 10 #[.nestMembers #[1103]] #[{ accessFlags := 1, nameIndex := 5, descriptorIndex := 6, attributes := #[] }, { accessFlags := 1, nameIndex := 497, descriptorIndex := 427, attributes := #[] }, { accessFlags := 0, nameIndex := 494, descriptorIndex := 142, attributes := #[] }, { accessFlags := 8, nameIndex := 501, descriptorIndex := 391, attributes := #[] }] 49 2 #[1106, 1108, 575, 1110, 1112] #[{ accessFlags := 18, nameIndex := 13, descriptorIndex := 14, attributes := #[] }, { accessFlags := 18, nameIndex := 17, descriptorIndex := 18, attributes := #[] }, { accessFlags := 2, nameIndex := 21, descriptorIndex := 22, attributes := #[] }, { accessFlags := 2, nameIndex := 25, descriptorIndex := 26, attributes := #[] }, { accessFlags := 26, nameIndex := 1116, descriptorIndex := 1117, attributes := #[] }, { accessFlags := 24, nameIndex := 40, descriptorIndex := 26, attributes := #[] }, { accessFlags := 26, nameIndex := 1101, descriptorIndex := 1102, attributes := #[] }, { accessFlags := 26, nameIndex := 1121, descriptorIndex := 1122, attributes := #[] }, { accessFlags := 25, nameIndex := 599, descriptorIndex := 600, attributes := #[] }, { accessFlags := 24, nameIndex := 1125, descriptorIndex := 18, attributes := #[] }, { accessFlags := 24, nameIndex := 1127, descriptorIndex := 18, attributes := #[] }])
  fields := #[{ name := "value", type := (.array .byte), accessFlags := 18, slot := 0, constantValue := 0 }, { name := "coder", type := .byte, accessFlags := 18, slot := 1, constantValue := 0 }, { name := "hash", type := .int, accessFlags := 2, slot := 2, constantValue := 0 }, { name := "hashIsZero", type := .boolean, accessFlags := 2, slot := 3, constantValue := 0 }, { name := "serialVersionUID", type := .long, accessFlags := 26, slot := 0, constantValue := 0 }, { name := "COMPACT_STRINGS", type := .boolean, accessFlags := 24, slot := 1, constantValue := 0 }, { name := "serialPersistentFields", type := (.array (.object "java/io/ObjectStreamField")), accessFlags := 26, slot := 2, constantValue := 0 }, { name := "REPL", type := .char, accessFlags := 26, slot := 3, constantValue := 0 }, { name := "CASE_INSENSITIVE_ORDER", type := (.object "java/util/Comparator"), accessFlags := 25, slot := 4, constantValue := 0 }, { name := "LATIN1", type := .byte, accessFlags := 24, slot := 5, constantValue := 0 }, { name := "UTF16", type := .byte, accessFlags := 24, slot := 6, constantValue := 0 }]
  methods := #[k9m0, k9m1, k9m2, k9m3]
  instanceTypes := #[(.array .byte), .byte, .int, .boolean]
  staticTypes := #[.long, .boolean, (.array (.object "java/io/ObjectStreamField")), .char, (.object "java/util/Comparator"), .byte, .byte]
  resolved := Array.replicate 1451 none
  statics := some 1 }

def pool10 : Array CpInfo := pool [(1, .class_ 2), (0, u "java/lang/String"), (1, .class_ 6), (1, u "java/lang/Object"), (0, u "<init>"), (0, u "()V"), (0, .methodref 1 10), (0, .nameAndType 11 12), (0, u "checkIndex"), (0, u "(II)V"), (1, .class_ 16), (1, u "java/lang/StringLatin1"), (36, u "([BI)C"), (67, u "$assertionsDisabled"), (0, u "Z"), (98, .class_ 223), (1, u "java/lang/StringLatin1$LinesSpliterator"), (28, u "charAt"), (137, .class_ 391), (0, u "java/lang/StringLatin1$CharsSpliterator")] 3

def k10m0 : Method := { name := "<init>", desc := "()V", sig := { parameters := [], returnType := none }, accessFlags := 0, code := none }
def k10c1 : Code := { maxStack := 2, maxLocals := 2, code := jdk_43_method_2_code, exceptionTable := #[], attributes := #[] }
def k10m1 : Method := { name := "charAt", desc := "([BI)C", sig := { parameters := [(.array .byte), .int], returnType := some .char }, accessFlags := 9, code := some k10c1 }
/-- java/lang/StringLatin1 -/
def k10 : Class := { plain "java/lang/StringLatin1" (some 0) with
  accessFlags := 48
  interfaces := #[]
  cf := some (fileOf pool10 14 #[.nestMembers #[390, 221]] #[{ accessFlags := 0, nameIndex := 7, descriptorIndex := 8, attributes := #[] }, { accessFlags := 9, nameIndex := 252, descriptorIndex := 53, attributes := #[] }] 48 4 #[] #[{ accessFlags := 4120, nameIndex := 121, descriptorIndex := 122, attributes := #[] }])
  fields := #[{ name := "$assertionsDisabled", type := .boolean, accessFlags := 4120, slot := 0, constantValue := 0 }]
  methods := #[k10m0, k10m1]
  instanceTypes := #[]
  staticTypes := #[.boolean]
  resolved := Array.replicate 395 none
  statics := none }

def pool11 : Array CpInfo := pool [(2, .class_ 4), (1, u "java/lang/Object"), (0, u "<init>"), (0, u "()V"), (17, .class_ 26), (1, u "jdk/internal/util/Preconditions"), (6, u "checkIndex"), (21, .class_ 56), (0, u "jdk/internal/util/Preconditions$4"), (57, .class_ 115), (0, u "jdk/internal/util/Preconditions$1"), (7, u "SIOOBE_FORMATTER"), (0, u "Ljava/util/function/BiFunction;"), (0, .class_ 126), (0, u "jdk/internal/util/Preconditions$2"), (3, u "AIOOBE_FORMATTER"), (0, .class_ 132), (0, u "jdk/internal/util/Preconditions$3"), (3, u "IOOBE_FORMATTER"), (41, u "(IILjava/util/function/BiFunction;)I")] 15

def k11m0 : Method := { name := "<init>", desc := "()V", sig := { parameters := [], returnType := none }, accessFlags := 1, code := none }
def k11c1 : Code := { maxStack := 3, maxLocals := 3, code := jdk_41_method_11_code, exceptionTable := #[], attributes := #[] }
def k11m1 : Method := { name := "checkIndex", desc := "(IILjava/util/function/BiFunction;)I", sig := { parameters := [.int, .int, (.object "java/util/function/BiFunction")], returnType := some .int }, accessFlags := 9, code := some k11c1 }
/-- jdk/internal/util/Preconditions -/
def k11 : Class := { plain "jdk/internal/util/Preconditions" (some 0) with
  accessFlags := 33
  interfaces := #[]
  cf := some (fileOf pool11 24 #[.nestMembers #[55, 131, 125, 114]] #[{ accessFlags := 1, nameIndex := 5, descriptorIndex := 6, attributes := #[] }, { accessFlags := 9, nameIndex := 33, descriptorIndex := 178, attributes := #[] }] 33 2 #[] #[{ accessFlags := 25, nameIndex := 123, descriptorIndex := 124, attributes := #[] }, { accessFlags := 25, nameIndex := 130, descriptorIndex := 124, attributes := #[] }, { accessFlags := 25, nameIndex := 136, descriptorIndex := 124, attributes := #[] }])
  fields := #[{ name := "SIOOBE_FORMATTER", type := (.object "java/util/function/BiFunction"), accessFlags := 25, slot := 0, constantValue := 0 }, { name := "AIOOBE_FORMATTER", type := (.object "java/util/function/BiFunction"), accessFlags := 25, slot := 1, constantValue := 0 }, { name := "IOOBE_FORMATTER", type := (.object "java/util/function/BiFunction"), accessFlags := 25, slot := 2, constantValue := 0 }]
  methods := #[k11m0, k11m1]
  instanceTypes := #[]
  staticTypes := #[(.object "java/util/function/BiFunction"), (.object "java/util/function/BiFunction"), (.object "java/util/function/BiFunction")]
  resolved := Array.replicate 194 none
  statics := some 2 }

def pool12 : Array CpInfo := pool [(9, u "<init>"), (6, .class_ 18), (1, u "java/lang/Object"), (0, u "()V"), (1, .class_ 23), (1, u "jdk/internal/util/ArraysSupport"), (0, u "LOG2_ARRAY_LONG_INDEX_SCALE"), (0, u "I"), (2, u "U"), (0, u "Ljdk/internal/misc/Unsafe;"), (8, u "BIG_ENDIAN"), (0, u "Z"), (8, u "LOG2_BYTE_BIT_SIZE"), (4, u "LOG2_ARRAY_INT_INDEX_SCALE"), (54, u "JLA"), (0, u "Ljdk/internal/access/JavaLangAccess;"), (11, u "LOG2_ARRAY_BOOLEAN_INDEX_SCALE"), (9, u "LOG2_ARRAY_BYTE_INDEX_SCALE"), (5, u "LOG2_ARRAY_CHAR_INDEX_SCALE"), (5, u "LOG2_ARRAY_SHORT_INDEX_SCALE"), (18, u "LOG2_ARRAY_FLOAT_INDEX_SCALE"), (24, u "LOG2_ARRAY_DOUBLE_INDEX_SCALE"), (89, u "T_BOOLEAN"), (2, u "T_CHAR"), (1, u "T_FLOAT"), (1, u "T_DOUBLE"), (1, u "T_BYTE"), (1, u "T_SHORT"), (1, u "T_INT"), (1, u "T_LONG"), (1, u "SOFT_MAX_ARRAY_LENGTH")] 83

def k12m0 : Method := { name := "<init>", desc := "()V", sig := { parameters := [], returnType := none }, accessFlags := 2, code := none }
/-- jdk/internal/util/ArraysSupport -/
def k12 : Class := { plain "jdk/internal/util/ArraysSupport" (some 0) with
  accessFlags := 33
  interfaces := #[]
  cf := some (fileOf pool12 21 #[] #[{ accessFlags := 2, nameIndex := 9, descriptorIndex := 19, attributes := #[] }] 33 16 #[] #[{ accessFlags := 24, nameIndex := 28, descriptorIndex := 29, attributes := #[] }, { accessFlags := 26, nameIndex := 38, descriptorIndex := 39, attributes := #[] }, { accessFlags := 25, nameIndex := 121, descriptorIndex := 25, attributes := #[] }, { accessFlags := 25, nameIndex := 131, descriptorIndex := 25, attributes := #[] }, { accessFlags := 25, nameIndex := 137, descriptorIndex := 25, attributes := #[] }, { accessFlags := 25, nameIndex := 143, descriptorIndex := 25, attributes := #[] }, { accessFlags := 25, nameIndex := 53, descriptorIndex := 25, attributes := #[] }, { accessFlags := 25, nameIndex := 24, descriptorIndex := 25, attributes := #[] }, { accessFlags := 25, nameIndex := 162, descriptorIndex := 25, attributes := #[] }, { accessFlags := 25, nameIndex := 187, descriptorIndex := 25, attributes := #[] }, { accessFlags := 26, nameIndex := 48, descriptorIndex := 25, attributes := #[] }, { accessFlags := 25, nameIndex := 277, descriptorIndex := 25, attributes := #[] }, { accessFlags := 25, nameIndex := 280, descriptorIndex := 25, attributes := #[] }, { accessFlags := 25, nameIndex := 282, descriptorIndex := 25, attributes := #[] }, { accessFlags := 25, nameIndex := 284, descriptorIndex := 25, attributes := #[] }, { accessFlags := 25, nameIndex := 286, descriptorIndex := 25, attributes := #[] }, { accessFlags := 25, nameIndex := 288, descriptorIndex := 25, attributes := #[] }, { accessFlags := 25, nameIndex := 290, descriptorIndex := 25, attributes := #[] }, { accessFlags := 25, nameIndex := 292, descriptorIndex := 25, attributes := #[] }, { accessFlags := 26, nameIndex := 108, descriptorIndex := 109, attributes := #[] }, { accessFlags := 25, nameIndex := 294, descriptorIndex := 25, attributes := #[] }])
  fields := #[{ name := "U", type := (.object "jdk/internal/misc/Unsafe"), accessFlags := 24, slot := 0, constantValue := 0 }, { name := "BIG_ENDIAN", type := .boolean, accessFlags := 26, slot := 1, constantValue := 0 }, { name := "LOG2_ARRAY_BOOLEAN_INDEX_SCALE", type := .int, accessFlags := 25, slot := 2, constantValue := 0 }, { name := "LOG2_ARRAY_BYTE_INDEX_SCALE", type := .int, accessFlags := 25, slot := 3, constantValue := 0 }, { name := "LOG2_ARRAY_CHAR_INDEX_SCALE", type := .int, accessFlags := 25, slot := 4, constantValue := 0 }, { name := "LOG2_ARRAY_SHORT_INDEX_SCALE", type := .int, accessFlags := 25, slot := 5, constantValue := 0 }, { name := "LOG2_ARRAY_INT_INDEX_SCALE", type := .int, accessFlags := 25, slot := 6, constantValue := 0 }, { name := "LOG2_ARRAY_LONG_INDEX_SCALE", type := .int, accessFlags := 25, slot := 7, constantValue := 0 }, { name := "LOG2_ARRAY_FLOAT_INDEX_SCALE", type := .int, accessFlags := 25, slot := 8, constantValue := 0 }, { name := "LOG2_ARRAY_DOUBLE_INDEX_SCALE", type := .int, accessFlags := 25, slot := 9, constantValue := 0 }, { name := "LOG2_BYTE_BIT_SIZE", type := .int, accessFlags := 26, slot := 10, constantValue := 0 }, { name := "T_BOOLEAN", type := .int, accessFlags := 25, slot := 11, constantValue := 0 }, { name := "T_CHAR", type := .int, accessFlags := 25, slot := 12, constantValue := 0 }, { name := "T_FLOAT", type := .int, accessFlags := 25, slot := 13, constantValue := 0 }, { name := "T_DOUBLE", type := .int, accessFlags := 25, slot := 14, constantValue := 0 }, { name := "T_BYTE", type := .int, accessFlags := 25, slot := 15, constantValue := 0 }, { name := "T_SHORT", type := .int, accessFlags := 25, slot := 16, constantValue := 0 }, { name := "T_INT", type := .int, accessFlags := 25, slot := 17, constantValue := 0 }, { name := "T_LONG", type := .int, accessFlags := 25, slot := 18, constantValue := 0 }, { name := "JLA", type := (.object "jdk/internal/access/JavaLangAccess"), accessFlags := 26, slot := 19, constantValue := 0 }, { name := "SOFT_MAX_ARRAY_LENGTH", type := .int, accessFlags := 25, slot := 20, constantValue := 0 }]
  methods := #[k12m0]
  instanceTypes := #[]
  staticTypes := #[(.object "jdk/internal/misc/Unsafe"), .boolean, .int, .int, .int, .int, .int, .int, .int, .int, .int, .int, .int, .int, .int, .int, .int, .int, .int, (.object "jdk/internal/access/JavaLangAccess"), .int]
  resolved := Array.replicate 378 none
  statics := none }

def pool13 : Array CpInfo := pool [(1, u "java/lang/Cloneable"), (0, .class_ 1), (0, u "java/lang/Object"), (0, .class_ 3)] 3

/-- java/lang/Cloneable -/
def k13 : Class := { plain "java/lang/Cloneable" (some 0) with
  accessFlags := 1537
  interfaces := #[]
  cf := some (fileOf pool13 2 #[] #[] 1537 4 #[] #[])
  fields := #[]
  methods := #[]
  instanceTypes := #[]
  staticTypes := #[]
  resolved := Array.replicate 8 none
  statics := none }

/-- the primitive byte -/
def k14 : Class := { plain "byte" none with kind := .primitive 'B', accessFlags := 0x411 }
/-- [B -/
def k15 : Class := { plain "[B" (some 0) with kind := .array 14 .byte, interfaces := #[13, 4], accessFlags := 1041 }

/-- the primitive int -/
def k16 : Class := { plain "int" none with kind := .primitive 'I', accessFlags := 0x411 }
/-- [I -/
def k17 : Class := { plain "[I" (some 0) with kind := .array 16 .int, interfaces := #[13, 4], accessFlags := 1041 }

def heap : Heap := #[{ cls := 6, slots := #[.ref 4, .ref 6, .ref 5, .ref 8, .ref 7, .ref 3, .null], vm := .statics 6 },
  { cls := 9, slots := #[.long 0, .int 1, .null, .int 0, .null, .int 0, .int 0], vm := .statics 9 },
  { cls := 11, slots := #[.null, .null, .null], vm := .statics 11 },
  { cls := 6, slots := #[.null, .int 0, .int 0, .null], vm := .none },
  { cls := 6, slots := #[.null, .int 0, .int 0, .null], vm := .none },
  { cls := 6, slots := #[.null, .int 0, .int 0, .null], vm := .none },
  { cls := 6, slots := #[.null, .int 0, .int 0, .null], vm := .none },
  { cls := 6, slots := #[.null, .int 0, .int 0, .null], vm := .none },
  { cls := 6, slots := #[.null, .int 0, .int 0, .null], vm := .none }]
def classes : Array Class := #[k0, k1, k2, k3, k4, k5, k6, k7, k8, k9, k10, k11, k12, k13, k14, k15, k16, k17]
def interned : List (Array UInt16 × Addr) := []
def slotsUsed : Nat := 41
def theMethod : MethodId := ⟨1, 4⟩
def args0 : Array Value := #[.int 3, .int 0]
def aboutOver (below : List Frame) : State where
  vm := { classes := classes, interned := interned.toArray }
  heap := heap
  slotsUsed := slotsUsed
  threads := #[{ frames := .invoking theMethod args0 :: below }]
def below0 : List Frame := [.native { method := ⟨0, 0⟩, args := #[] }]
def about1 : State := aboutOver below0
def p0 : Program := .bare "" "" ""
def e0 : Env := launch0.env 0 0 0
theorem w_frames : about1.frames = Frame.invoking theMethod args0 :: below0 := rfl
set_option maxRecDepth 65536 in
theorem w_args : argsFit about1.vm theMethod args0 = true := by decide +kernel
set_option maxRecDepth 65536 in
theorem w_heap : heapFits about1 = true := by decide +kernel
set_option maxRecDepth 65536 in
theorem w_runnable : about1.curStatus? = some .runnable := by decide +kernel
set_option maxRecDepth 65536 in
theorem w_alone : about1.alone = true := by decide +kernel
set_option maxRecDepth 65536 in
theorem w_named : about1.methodNamed? x = some theMethod := by decide +kernel
set_option maxRecDepth 65536 in
theorem w_hears : about1.hears theMethod below0 = true := by decide +kernel
set_option maxRecDepth 65536 in
theorem w_ripe : about1.ripe theMethod args0 below0 = true := by decide +kernel
theorem w_running : about1.status = .running := rfl
set_option maxRecDepth 65536 in
theorem w_room : about1.hasRoom e0.platform room_1 = true :=
  launch0.hasRoom_least _ room_1 (by decide +kernel) (by decide +kernel) (by decide +kernel) (by decide +kernel) (by decide +kernel) (by decide +kernel)
theorem allAtoms_all (ts : List Jvm.Cond) (a : Array Jvm.Value) (st : Jvm.State) : (allAtoms ts).before a st = ts.all (fun c => c.before a st) := by
  induction ts with
  | nil => rfl
  | cons c t ih =>
    show (Jvm.Cond.and c (allAtoms t)).before a st = _
    rw [Jvm.Cond.before_and, ih, List.all_cons]
def words1 : List Jvm.Cond := Jvm.Cond.code x code maxLocals ret :: tables_1
/-- a 'code' word, met by the world's own term for the bytes: nothing is compared byte by byte -/
theorem code_word {y : MethodName} {bytes : ByteArray} {mx : Nat} {rt : Option FieldType} {a : Array Value} {s : State} {m : MethodId} {meth : Method} {c : Code} (h1 : s.methodNamed? y = some m) (h2 : s.vm.method? m = some meth) (h3 : meth.code = some c) (h4 : c.code = bytes)
    (h5 : (c.maxLocals == mx && c.exceptionTable.isEmpty && decide (c.maxStack ≤ mostOperands) && decide (meth.sig.returnType = rt) && !meth.locks && decide (parseMethodDescriptor y.desc = some meth.sig)) = true) : (Jvm.Cond.code y bytes mx rt).before a s = true := by
  simp only [Bool.and_eq_true, beq_iff_eq, Bool.not_eq_true', decide_eq_true_eq] at h5
  obtain ⟨⟨⟨⟨⟨g1, g2⟩, g3⟩, g4⟩, g5⟩, g6⟩ := h5
  simp [Cond.before, Cond.holds, Cond.value, h1, h2, h3, h4, g1, g2, g3, g4, g5, g6]
def isCode : Jvm.Cond → Bool
  | .code _ _ _ _ => true
  | _ => false
theorem all_split {L : List Jvm.Cond} {P : Jvm.Cond → Bool} (h1 : L.all (fun c => isCode c || P c) = true) (h2 : ∀ c ∈ L.filter isCode, P c = true) : L.all P = true := by
  refine List.all_eq_true.mpr fun c hc => ?_
  have h := List.all_eq_true.mp h1 c hc
  rcases Bool.eq_false_or_eq_true (isCode c) with hi | hi
  · exact h2 c (List.mem_filter.mpr ⟨hc, hi⟩)
  · simpa [hi] using h
set_option maxRecDepth 65536 in
theorem w_c0 : (Jvm.Cond.code x code maxLocals ret).before args0 about1 = true := code_word (m := ⟨1, 4⟩) (meth := k1m4) (c := k1c4) (by decide +kernel) rfl rfl rfl (by decide +kernel)
set_option maxRecDepth 65536 in
theorem w_c1 : (Jvm.Cond.code ({ cls := "com/example/tuple/tuple/model/Kind", name := "ofSqlType", desc := "(I)Lcom/example/tuple/tuple/model/Kind;" } : Jvm.MethodName) prog_4_method_4_code (1 : Nat) (Option.some (Jvm.ClassFile.FieldType.object "com/example/tuple/tuple/model/Kind"))).before args0 about1 = true := code_word (m := ⟨6, 0⟩) (meth := k6m0) (c := k6c0) (by decide +kernel) rfl rfl rfl (by decide +kernel)
set_option maxRecDepth 65536 in
theorem w_c2 : (Jvm.Cond.code ({ cls := "com/example/tuple/tuple/model/KindOfSqlTypePinLaw", name := "low", desc := "(I)Lcom/example/tuple/tuple/model/Kind;" } : Jvm.MethodName) method_2_code (1 : Nat) (Option.some (Jvm.ClassFile.FieldType.object "com/example/tuple/tuple/model/Kind"))).before args0 about1 = true := code_word (m := ⟨1, 1⟩) (meth := k1m1) (c := k1c1) (by decide +kernel) rfl rfl rfl (by decide +kernel)
set_option maxRecDepth 65536 in
theorem w_c3 : (Jvm.Cond.code ({ cls := "java/lang/String", name := "charAt", desc := "(I)C" } : Jvm.MethodName) jdk_42_method_56_code (2 : Nat) (Option.some Jvm.ClassFile.FieldType.char)).before args0 about1 = true := code_word (m := ⟨9, 1⟩) (meth := k9m1) (c := k9c1) (by decide +kernel) rfl rfl rfl (by decide +kernel)
set_option maxRecDepth 65536 in
theorem w_c4 : (Jvm.Cond.code ({ cls := "java/lang/String", name := "isLatin1", desc := "()Z" } : Jvm.MethodName) jdk_42_method_154_code (1 : Nat) (Option.some Jvm.ClassFile.FieldType.boolean)).before args0 about1 = true := code_word (m := ⟨9, 2⟩) (meth := k9m2) (c := k9c2) (by decide +kernel) rfl rfl rfl (by decide +kernel)
set_option maxRecDepth 65536 in
theorem w_c5 : (Jvm.Cond.code ({ cls := "java/lang/StringLatin1", name := "charAt", desc := "([BI)C" } : Jvm.MethodName) jdk_43_method_2_code (2 : Nat) (Option.some Jvm.ClassFile.FieldType.char)).before args0 about1 = true := code_word (m := ⟨10, 1⟩) (meth := k10m1) (c := k10c1) (by decide +kernel) rfl rfl rfl (by decide +kernel)
set_option maxRecDepth 65536 in
theorem w_c6 : (Jvm.Cond.code ({ cls := "java/lang/String", name := "checkIndex", desc := "(II)V" } : Jvm.MethodName) jdk_42_method_155_code (2 : Nat) (Option.none : Option Jvm.ClassFile.FieldType)).before args0 about1 = true := code_word (m := ⟨9, 3⟩) (meth := k9m3) (c := k9c3) (by decide +kernel) rfl rfl rfl (by decide +kernel)
set_option maxRecDepth 65536 in
theorem w_c7 : (Jvm.Cond.code ({ cls := "jdk/internal/util/Preconditions", name := "checkIndex", desc := "(IILjava/util/function/BiFunction;)I" } : Jvm.MethodName) jdk_41_method_11_code (3 : Nat) (Option.some Jvm.ClassFile.FieldType.int)).before args0 about1 = true := code_word (m := ⟨11, 1⟩) (meth := k11m1) (c := k11c1) (by decide +kernel) rfl rfl rfl (by decide +kernel)
set_option maxRecDepth 65536 in
theorem w_c8 : (Jvm.Cond.code ({ cls := "com/example/tuple/tuple/model/KindOfSqlTypePinLaw", name := "kindOf", desc := "(C)Lcom/example/tuple/tuple/model/Kind;" } : Jvm.MethodName) method_4_code (2 : Nat) (Option.some (Jvm.ClassFile.FieldType.object "com/example/tuple/tuple/model/Kind"))).before args0 about1 = true := code_word (m := ⟨1, 3⟩) (meth := k1m3) (c := k1c3) (by decide +kernel) rfl rfl rfl (by decide +kernel)
set_option maxRecDepth 65536 in
theorem w_c9 : (Jvm.Cond.code ({ cls := "com/example/tuple/tuple/model/KindOfSqlTypePinLaw", name := "high", desc := "(I)Lcom/example/tuple/tuple/model/Kind;" } : Jvm.MethodName) method_3_code (1 : Nat) (Option.some (Jvm.ClassFile.FieldType.object "com/example/tuple/tuple/model/Kind"))).before args0 about1 = true := code_word (m := ⟨1, 2⟩) (meth := k1m2) (c := k1c2) (by decide +kernel) rfl rfl rfl (by decide +kernel)
def codes1 : List Jvm.Cond := [Jvm.Cond.code x code maxLocals ret, Jvm.Cond.code ({ cls := "com/example/tuple/tuple/model/Kind", name := "ofSqlType", desc := "(I)Lcom/example/tuple/tuple/model/Kind;" } : Jvm.MethodName) prog_4_method_4_code (1 : Nat) (Option.some (Jvm.ClassFile.FieldType.object "com/example/tuple/tuple/model/Kind")), Jvm.Cond.code ({ cls := "com/example/tuple/tuple/model/KindOfSqlTypePinLaw", name := "low", desc := "(I)Lcom/example/tuple/tuple/model/Kind;" } : Jvm.MethodName) method_2_code (1 : Nat) (Option.some (Jvm.ClassFile.FieldType.object "com/example/tuple/tuple/model/Kind")), Jvm.Cond.code ({ cls := "java/lang/String", name := "charAt", desc := "(I)C" } : Jvm.MethodName) jdk_42_method_56_code (2 : Nat) (Option.some Jvm.ClassFile.FieldType.char), Jvm.Cond.code ({ cls := "java/lang/String", name := "isLatin1", desc := "()Z" } : Jvm.MethodName) jdk_42_method_154_code (1 : Nat) (Option.some Jvm.ClassFile.FieldType.boolean), Jvm.Cond.code ({ cls := "java/lang/StringLatin1", name := "charAt", desc := "([BI)C" } : Jvm.MethodName) jdk_43_method_2_code (2 : Nat) (Option.some Jvm.ClassFile.FieldType.char), Jvm.Cond.code ({ cls := "java/lang/String", name := "checkIndex", desc := "(II)V" } : Jvm.MethodName) jdk_42_method_155_code (2 : Nat) (Option.none : Option Jvm.ClassFile.FieldType), Jvm.Cond.code ({ cls := "jdk/internal/util/Preconditions", name := "checkIndex", desc := "(IILjava/util/function/BiFunction;)I" } : Jvm.MethodName) jdk_41_method_11_code (3 : Nat) (Option.some Jvm.ClassFile.FieldType.int), Jvm.Cond.code ({ cls := "com/example/tuple/tuple/model/KindOfSqlTypePinLaw", name := "kindOf", desc := "(C)Lcom/example/tuple/tuple/model/Kind;" } : Jvm.MethodName) method_4_code (2 : Nat) (Option.some (Jvm.ClassFile.FieldType.object "com/example/tuple/tuple/model/Kind")), Jvm.Cond.code ({ cls := "com/example/tuple/tuple/model/KindOfSqlTypePinLaw", name := "high", desc := "(I)Lcom/example/tuple/tuple/model/Kind;" } : Jvm.MethodName) method_3_code (1 : Nat) (Option.some (Jvm.ClassFile.FieldType.object "com/example/tuple/tuple/model/Kind"))]
set_option maxRecDepth 65536 in
theorem codes_eq : words1.filter isCode = codes1 := rfl
theorem w_codes : ∀ c ∈ words1.filter isCode, c.before args0 about1 = true := by
  rw [codes_eq]
  intro c hc
  simp only [codes1, List.mem_cons, List.not_mem_nil, or_false] at hc
  rcases hc with rfl | rfl | rfl | rfl | rfl | rfl | rfl | rfl | rfl | rfl
  · exact w_c0
  · exact w_c1
  · exact w_c2
  · exact w_c3
  · exact w_c4
  · exact w_c5
  · exact w_c6
  · exact w_c7
  · exact w_c8
  · exact w_c9
set_option maxRecDepth 65536 in
theorem w_t1 : (words1.take 24).all (fun c => isCode c || c.before args0 about1) = true := by decide +kernel
set_option maxRecDepth 65536 in
theorem w_t2 : ((words1.drop 24).take 24).all (fun c => isCode c || c.before args0 about1) = true := by decide +kernel
set_option maxRecDepth 65536 in
theorem w_t3 : ((words1.drop 24).drop 24).all (fun c => isCode c || c.before args0 about1) = true := by decide +kernel
theorem w_tables : (allAtoms (Jvm.Cond.code x code maxLocals ret :: tables_1)).before args0 about1 = true := by
  rw [allAtoms_all]
  show words1.all (fun c => c.before args0 about1) = true
  refine all_split ?_ w_codes
  rw [← List.take_append_drop 24 words1, List.all_append, w_t1, ← List.take_append_drop 24 (words1.drop 24), List.all_append, w_t2, w_t3]
  rfl
set_option maxRecDepth 65536 in
theorem w_rest : rest_1_c.before args0 about1 = true := by decide +kernel
set_option maxRecDepth 65536 in
theorem w_case : (Jvm.Cond.and given_1 narrow_1).before args0 about1 = true := by decide +kernel
set_option maxRecDepth 65536 in
theorem w_consts : constsHeld consts_1 about1 := Jvm.Lit.constsHeldB_iff.mp (by decide +kernel)
theorem w_applies : (headSpec (Jvm.Cond.code x code maxLocals ret :: tables_1) room_1).applies x e0.platform about1 = true :=
  (Spec.applies_iff w_frames).mpr ⟨w_running, w_runnable, w_alone, w_named, w_hears, w_ripe, w_room, w_tables⟩
theorem atStart : AtStart classFile x code maxLocals ret World_1 tables_1 room_1 Calls_1 rest_1 Pre_1 launch0 p0 e0 about1 theMethod args0 below0 :=
  ⟨lists_1, trivial, launch0.admits_env _ _ _, launch0.least_env, fairChoices_fair.cas, fairChoices_fair.clock, w_frames, w_args, w_heap, w_applies, ⟨w_consts, trivial⟩, w_rest, w_case⟩
end start1
theorem witness_1 : WitnessClaimed_1 := ⟨start1.p0, start1.e0, start1.about1, start1.theMethod, start1.args0, start1.below0, start1.atStart⟩
end Jvm.Pilot.@@N@@
