import JvmDerived
import JvmDerived.Pilot.@@N@@Statement
import JvmDerived.Pilot.@@N@@Code
set_option linter.unusedVariables false
set_option linter.unusedSimpArgs false
namespace Jvm.RoadKit
open Sem ClassFile Op Lib Jvm.Stand Jvm.Free Jvm.LawKit
section New
variable {p : Program} {l : Launch} {e : Env} {R : Room} {s : State} {m : MethodId} {args : Array Value} {below : List Frame} {meth : Method} {c : Code} {T : State} {locs : List Loc} {cells slots : Nat}
theorem retI (X : Stand p l e R s m args below meth c T locs cells slots) (hx : p.tables.exec = Jvm.exec) {pc : Nat} {Ls : Array Slot} {z : Int32} {rest : List Value} (hret : meth.sig.returnType = some .int) (hd : decode c.code pc = .ok (.ireturn, 1)) {fs : List Frame}
    (hl : ∀ (f : JFrame) (acts : List Action), f.method = m → f.locked = none → f.entered = [] → (doReturn e (T.setTop f) acts (some (.int z))).1 = T.setFrames fs) : Steps p.tables e below (T.setTop (mkF m pc Ls (.int z :: rest))) (T.setFrames fs) := by
  have hm' : T.vm.method? m = some meth := X.method'
  have hn : narrow .int (.int z) = .int z := rfl
  show Steps p.tables e below (T.setTop { method := m, pc := pc, locals := Ls, stack := _ :: rest, locked := none }) _
  jvm_step X.here [X.here.top, hx, hd, hm', hret, hn]
  first | (intro acts; rw [hl _ acts rfl rfl rfl]) | rw [hl _ _ rfl rfl rfl]
  exact Steps.refl _
end New
end Jvm.RoadKit
namespace Jvm.Pilot.@@N@@
open Jvm Jvm.ClassFile Sem Op Lib Jvm.Free Jvm.Stand Jvm.LawKit Jvm.RoadKit Bundle Jvm.Pilot.@@N@@.Jvm.D
section Own
variable {p : Program} {l : Launch} {e : Env} {R : Room} {s : State} {m : MethodId} {args : Array Value} {below : List Frame} {meth : Method} {c : Code} {T T' : State} {locs : List Loc} {cells slots cc nn : Nat} {f f' : JFrame} {Q : Option Value → Heap → List Loc → Prop} {Z : State} {h h' : Heap} {ws : List Addr}
/-- from this state the body comes to its end, and what it leaves is as Q says -/
def own_Ends (p : Program) (e : Env) (below : List Frame) (s : State) (Q : Option Value → Heap → List Loc → Prop) (cc nn : Nat) (T : State) (f : JFrame) : Prop :=
  ∃ s₂ o, Steps p.tables e below (T.setTop f) s₂ ∧ s₂.status = .running ∧ Ended s₂ below o ∧ ∃ v L, o = .returned v ∧ Q v s₂.heap L ∧ FrameEnd s o s₂ L cc nn
theorem own_go (k : ∀ t, Steps p.tables e below (T'.setTop f') t → Steps p.tables e below (T.setTop f) t) (h : own_Ends p e below s Q cc nn T' f') : own_Ends p e below s Q cc nn T f := by
  obtain ⟨s₂, o, h1, h2⟩ := h
  exact ⟨s₂, o, k _ h1, h2⟩
theorem own_ret (X : Stand p l e R s m args below meth c T locs cells slots) {v : Option Value} (hv : meth.sig.returnType = none → v = none) (hlk : meth.locks = false)
    (st : ∀ fs, (∀ (f : JFrame) (acts : List Action), f.method = m → f.locked = none → f.entered = [] → (doReturn e (T.setTop f) acts v).1 = T.setFrames fs) → Steps p.tables e below (T.setTop f) (T.setFrames fs)) (hQ : Q v T.heap locs) (h1 : cells ≤ cc) (h2 : slots ≤ nn) :
    own_Ends p e below s Q cc nn T f := by
  obtain ⟨fs, hr, hrun, hended, hW, hsame⟩ := X.leave (v := v) hv hlk
  exact ⟨_, _, st fs hr, hrun, hended, _, _, rfl, hQ, ⟨_, rfl⟩, hW, hsame.mono h1 h2⟩
theorem own_retL (X : Stand p l e R s m args below meth c T locs cells slots) (hx : p.tables.exec = Jvm.exec) {pc : Nat} {Ls : Array Slot} {z : Int64} {rest : List Value} (hret : meth.sig.returnType = some .long) (hd : decode c.code pc = .ok (.lreturn, 1)) {fs : List Frame}
    (hl : ∀ (f : JFrame) (acts : List Action), f.method = m → f.locked = none → f.entered = [] → (doReturn e (T.setTop f) acts (some (.long z))).1 = T.setFrames fs) : Steps p.tables e below (T.setTop (mkF m pc Ls (.long z :: rest))) (T.setFrames fs) :=
  retOut X hx hret rfl (Or.inr (Or.inl ⟨rfl, rfl, _, rfl⟩)) hd hl
theorem own_retD (X : Stand p l e R s m args below meth c T locs cells slots) (hx : p.tables.exec = Jvm.exec) {pc : Nat} {Ls : Array Slot} {z : UInt64} {rest : List Value} (hret : meth.sig.returnType = some .double) (hd : decode c.code pc = .ok (.dreturn, 1)) {fs : List Frame}
    (hl : ∀ (f : JFrame) (acts : List Action), f.method = m → f.locked = none → f.entered = [] → (doReturn e (T.setTop f) acts (some (.double z))).1 = T.setFrames fs) : Steps p.tables e below (T.setTop (mkF m pc Ls (.double z :: rest))) (T.setFrames fs) :=
  retOut X hx hret rfl (Or.inr (Or.inr (Or.inl ⟨rfl, rfl, _, rfl⟩))) hd hl
theorem own_retA (X : Stand p l e R s m args below meth c T locs cells slots) (hx : p.tables.exec = Jvm.exec) {pc : Nat} {Ls : Array Slot} {w : Value} {t : FieldType} {rest : List Value} (hret : meth.sig.returnType = some t) (ht : t.isReference = true) (hw : w.isRef = true) (hd : decode c.code pc = .ok (.areturn, 1)) {fs : List Frame}
    (hl : ∀ (f : JFrame) (acts : List Action), f.method = m → f.locked = none → f.entered = [] → (doReturn e (T.setTop f) acts (some w)).1 = T.setFrames fs) : Steps p.tables e below (T.setTop (mkF m pc Ls (w :: rest))) (T.setFrames fs) :=
  retOut X hx hret (by cases t <;> first | rfl | (cases ht; done)) (Or.inr (Or.inr (Or.inr (Or.inr ⟨rfl, ht, hw⟩)))) hd hl
theorem own_lc_lt {a b : Int64} : lcmpW a b < 0 ↔ a < b := by
  simp only [lcmpW, gt_iff_lt]
  by_cases h1 : b < a
  · rw [if_pos h1]; exact ⟨fun q => absurd q (by decide), fun q => absurd q (by rw [Int64.lt_iff_toInt_lt] at *; omega)⟩
  · rw [if_neg h1]
    by_cases h2 : a = b
    · rw [if_pos h2]; exact ⟨fun q => absurd q (by decide), fun q => absurd q (by rw [h2, Int64.lt_iff_toInt_lt]; omega)⟩
    · rw [if_neg h2]; exact ⟨fun _ => by rw [Int64.lt_iff_toInt_lt] at *; rw [← Int64.toInt_inj] at h2; omega, fun _ => by decide⟩
theorem own_lc_eq {a b : Int64} : lcmpW a b = 0 ↔ a = b := by
  simp only [lcmpW, gt_iff_lt]
  by_cases h1 : b < a
  · rw [if_pos h1]; exact ⟨fun q => absurd q (by decide), fun q => absurd h1 (by rw [q, Int64.lt_iff_toInt_lt]; omega)⟩
  · rw [if_neg h1]
    by_cases h2 : a = b
    · rw [if_pos h2]; exact ⟨fun _ => h2, fun _ => rfl⟩
    · rw [if_neg h2]; exact ⟨fun q => absurd q (by decide), fun q => absurd q h2⟩
theorem own_lc_gt {a b : Int64} : 0 < lcmpW a b ↔ b < a := by
  simp only [lcmpW, gt_iff_lt]
  by_cases h1 : b < a
  · rw [if_pos h1]; exact ⟨fun _ => h1, fun _ => by decide⟩
  · rw [if_neg h1]
    by_cases h2 : a = b
    · rw [if_pos h2]; exact ⟨fun q => absurd q (by decide), fun q => absurd q h1⟩
    · rw [if_neg h2]; exact ⟨fun q => absurd q (by decide), fun q => absurd q h1⟩
section Arr
variable {target : State} {g : JFrame} {a : Addr} {kc : ClassId} {ty : FieldType} {z : Int32} {vs : List Value} {dv : Value}
theorem own_alen (X : Stand p l e R s m args below meth c T locs cells slots) (hx : p.tables.exec = Jvm.exec) (hZ : Z.Warmed39 s.vm) (eT : T.heap = h) (V : Arv Z h a kc ty z vs dv) (hg : g.method = m) {rest : List Value} (hs : g.stack = .ref a :: rest) (hd : decode c.code g.pc = .ok (.arraylength, 1))
    (hr : Steps p.tables e below (T.setTop { g with pc := g.pc + 1, stack := .int z :: rest }) target) : Steps p.tables e below (T.setTop g) target := by
  obtain ⟨cl, Ar, -, Sz, Ng, -, -⟩ := V
  exact X.arraylength hx (by rw [eT]; exact Ar.1) (State.isArrayOf_alike hZ.alike Ar.2.1) hg hs hd _ (by rw [len_of Sz Ng]; exact hr)
theorem own_ldI (X : Stand p l e R s m args below meth c T locs cells slots) (hx : p.tables.exec = Jvm.exec) (hZ : Z.Warmed39 s.vm) (eT : T.heap = h) (V : Arv Z h a kc .int z vs dv) {j : Int32} {x : Int32} (hin : ¬ j < 0 ∧ j < z) (hv : vs.getD j.toNatClampNeg dv = .int x) (hg : g.method = m) {rest : List Value} (hs : g.stack = .int j :: .ref a :: rest) (hd : decode c.code g.pc = .ok (.iaload, 1))
    (hr : Steps p.tables e below (T.setTop { g with pc := g.pc + 1, stack := .int x :: rest }) target) : Steps p.tables e below (T.setTop g) target := by
  obtain ⟨cl, Ar, -, Sz, Ng, Hs, Ft⟩ := V
  have hq := inb_of (j := j) Sz hin
  exact X.iaload hx (j := j) (v := .int x) (by rw [eT]; exact Ar.1) (State.isArrayOf_alike hZ.alike Ar.2.1) Ar.2.2 hq (Hs.at hq hv) hg hs hd _ hr
theorem own_ldB (X : Stand p l e R s m args below meth c T locs cells slots) (hx : p.tables.exec = Jvm.exec) (hZ : Z.Warmed39 s.vm) (eT : T.heap = h) (V : Arv Z h a kc .byte z vs dv) {j : Int32} {x : Int32} (hin : ¬ j < 0 ∧ j < z) (hv : vs.getD j.toNatClampNeg dv = .int x) (hg : g.method = m) {rest : List Value} (hs : g.stack = .int j :: .ref a :: rest) (hd : decode c.code g.pc = .ok (.baload, 1))
    (hr : Steps p.tables e below (T.setTop { g with pc := g.pc + 1, stack := .int x :: rest }) target) : Steps p.tables e below (T.setTop g) target := by
  obtain ⟨cl, Ar, -, Sz, Ng, Hs, Ft⟩ := V
  have hq := inb_of (j := j) Sz hin
  exact X.baloadBytes hx (j := j) (v := .int x) (by rw [eT]; exact Ar.1) (State.isArrayOf_alike hZ.alike Ar.2.1) Ar.2.2 hq (Hs.at hq hv) hg hs hd _ hr
theorem own_ldC (X : Stand p l e R s m args below meth c T locs cells slots) (hx : p.tables.exec = Jvm.exec) (hZ : Z.Warmed39 s.vm) (eT : T.heap = h) (V : Arv Z h a kc .char z vs dv) {j : Int32} {x : Int32} (hin : ¬ j < 0 ∧ j < z) (hv : vs.getD j.toNatClampNeg dv = .int x) (hg : g.method = m) {rest : List Value} (hs : g.stack = .int j :: .ref a :: rest) (hd : decode c.code g.pc = .ok (.caload, 1))
    (hr : Steps p.tables e below (T.setTop { g with pc := g.pc + 1, stack := .int x :: rest }) target) : Steps p.tables e below (T.setTop g) target := by
  obtain ⟨cl, Ar, -, Sz, Ng, Hs, Ft⟩ := V
  have hq := inb_of (j := j) Sz hin
  exact X.caload hx (j := j) (v := .int x) (by rw [eT]; exact Ar.1) (State.isArrayOf_alike hZ.alike Ar.2.1) Ar.2.2 hq (Hs.at hq hv) hg hs hd _ hr
theorem own_ldJ (X : Stand p l e R s m args below meth c T locs cells slots) (hx : p.tables.exec = Jvm.exec) (hZ : Z.Warmed39 s.vm) (eT : T.heap = h) (V : Arv Z h a kc .long z vs dv) {j : Int32} {x : Int64} (hin : ¬ j < 0 ∧ j < z) (hv : vs.getD j.toNatClampNeg dv = .long x) (hg : g.method = m) {rest : List Value} (hs : g.stack = .int j :: .ref a :: rest) (hd : decode c.code g.pc = .ok (.laload, 1))
    (hr : Steps p.tables e below (T.setTop { g with pc := g.pc + 1, stack := .long x :: rest }) target) : Steps p.tables e below (T.setTop g) target := by
  obtain ⟨cl, Ar, -, Sz, Ng, Hs, Ft⟩ := V
  have hq := inb_of (j := j) Sz hin
  exact X.laload hx (j := j) (v := .long x) (by rw [eT]; exact Ar.1) (State.isArrayOf_alike hZ.alike Ar.2.1) Ar.2.2 hq (Hs.at hq hv) hg hs hd _ hr
theorem own_ldR (X : Stand p l e R s m args below meth c T locs cells slots) (hx : p.tables.exec = Jvm.exec) (hZ : Z.Warmed39 s.vm) (eT : T.heap = h) (V : Arv Z h a kc ty z vs dv) {j : Int32} {x : Value} (hin : ¬ j < 0 ∧ j < z) (hv : vs.getD j.toNatClampNeg dv = x) (hty : ty.isReference = true) (hg : g.method = m) {rest : List Value} (hs : g.stack = .int j :: .ref a :: rest) (hd : decode c.code g.pc = .ok (.aaload, 1))
    (hr : Steps p.tables e below (T.setTop { g with pc := g.pc + 1, stack := x :: rest }) target) : Steps p.tables e below (T.setTop g) target := by
  obtain ⟨cl, Ar, -, Sz, Ng, Hs, Ft⟩ := V
  have hq := inb_of (j := j) Sz hin
  exact X.aaload hx (j := j) (v := x) (by rw [eT]; exact Ar.1) (State.isArrayOf_alike hZ.alike Ar.2.1) hty Ar.2.2 hq (Hs.at hq hv) hg hs hd _ hr
theorem own_stI (X : Stand p l e R s m args below meth c T locs cells slots) (hx : p.tables.exec = Jvm.exec) (hZ : Z.Warmed39 s.vm) (eT : T.heap = h) (V : Arv Z h a kc .int z vs dv) {j : Int32} {x : Int32} (hin : ¬ j < 0 ∧ j < z) (i : Nat) (hj : j.toNatClampNeg = i) (hi : i < vs.length) (hg : g.method = m) {rest : List Value} (hs : g.stack = .int x :: .int j :: .ref a :: rest) (hd : decode c.code g.pc = .ok (.iastore, 1)) :
    ∃ T' h', Stand p l e R s m args below meth c T' (locs ++ [⟨a, j.toNatClampNeg⟩]) cells slots ∧ T'.heap = h' ∧ Wr h h' a j.toNatClampNeg (.int x) ∧ Arv Z h' a kc .int z (vs.set i (.int x)) dv ∧ ∀ target, Steps p.tables e below (T'.setTop { g with pc := g.pc + 1, stack := rest }) target → Steps p.tables e below (T.setTop g) target := by
  obtain ⟨cl, Ar, q, Sz, Ng, Hs, Ft⟩ := V
  obtain ⟨T', h', X', e', W', st⟩ := stI X hx hZ eT Ar (j := j) (inb_of Sz hin) hg hs hd
  exact ⟨T', h', X', e', W', Arv.set Ar q Sz Ng Hs Ft rfl W' i hj hi, st⟩
theorem own_stB (X : Stand p l e R s m args below meth c T locs cells slots) (hx : p.tables.exec = Jvm.exec) (hZ : Z.Warmed39 s.vm) (eT : T.heap = h) (V : Arv Z h a kc .byte z vs dv) {j : Int32} {x : Int32} (hin : ¬ j < 0 ∧ j < z) (i : Nat) (hj : j.toNatClampNeg = i) (hi : i < vs.length) (hg : g.method = m) {rest : List Value} (hs : g.stack = .int x :: .int j :: .ref a :: rest) (hd : decode c.code g.pc = .ok (.bastore, 1)) :
    ∃ T' h', Stand p l e R s m args below meth c T' (locs ++ [⟨a, j.toNatClampNeg⟩]) cells slots ∧ T'.heap = h' ∧ Wr h h' a j.toNatClampNeg (.int (nar .byte x)) ∧ Arv Z h' a kc .byte z (vs.set i (.int (nar .byte x))) dv ∧ ∀ target, Steps p.tables e below (T'.setTop { g with pc := g.pc + 1, stack := rest }) target → Steps p.tables e below (T.setTop g) target := by
  obtain ⟨cl, Ar, q, Sz, Ng, Hs, Ft⟩ := V
  obtain ⟨T', h', X', e', W', st⟩ := stB X hx hZ eT Ar (j := j) (inb_of Sz hin) hg hs hd
  exact ⟨T', h', X', e', W', Arv.set Ar q Sz Ng Hs Ft (fits_nar_byte _) W' i hj hi, st⟩
theorem own_stC (X : Stand p l e R s m args below meth c T locs cells slots) (hx : p.tables.exec = Jvm.exec) (hZ : Z.Warmed39 s.vm) (eT : T.heap = h) (V : Arv Z h a kc .char z vs dv) {j : Int32} {x : Int32} (hin : ¬ j < 0 ∧ j < z) (i : Nat) (hj : j.toNatClampNeg = i) (hi : i < vs.length) (hg : g.method = m) {rest : List Value} (hs : g.stack = .int x :: .int j :: .ref a :: rest) (hd : decode c.code g.pc = .ok (.castore, 1)) :
    ∃ T' h', Stand p l e R s m args below meth c T' (locs ++ [⟨a, j.toNatClampNeg⟩]) cells slots ∧ T'.heap = h' ∧ Wr h h' a j.toNatClampNeg (.int (nar .char x)) ∧ Arv Z h' a kc .char z (vs.set i (.int (nar .char x))) dv ∧ ∀ target, Steps p.tables e below (T'.setTop { g with pc := g.pc + 1, stack := rest }) target → Steps p.tables e below (T.setTop g) target := by
  obtain ⟨cl, Ar, q, Sz, Ng, Hs, Ft⟩ := V
  obtain ⟨T', h', X', e', W', st⟩ := stC X hx hZ eT Ar (j := j) (inb_of Sz hin) hg hs hd
  exact ⟨T', h', X', e', W', Arv.set Ar q Sz Ng Hs Ft (fits_nar_char _) W' i hj hi, st⟩
theorem own_stJ (X : Stand p l e R s m args below meth c T locs cells slots) (hx : p.tables.exec = Jvm.exec) (hZ : Z.Warmed39 s.vm) (eT : T.heap = h) (V : Arv Z h a kc .long z vs dv) {j : Int32} {x : Int64} (hin : ¬ j < 0 ∧ j < z) (i : Nat) (hj : j.toNatClampNeg = i) (hi : i < vs.length) (hg : g.method = m) {rest : List Value} (hs : g.stack = .long x :: .int j :: .ref a :: rest) (hd : decode c.code g.pc = .ok (.lastore, 1)) :
    ∃ T' h', Stand p l e R s m args below meth c T' (locs ++ [⟨a, j.toNatClampNeg⟩]) cells slots ∧ T'.heap = h' ∧ Wr h h' a j.toNatClampNeg (.long x) ∧ Arv Z h' a kc .long z (vs.set i (.long x)) dv ∧ ∀ target, Steps p.tables e below (T'.setTop { g with pc := g.pc + 1, stack := rest }) target → Steps p.tables e below (T.setTop g) target := by
  obtain ⟨cl, Ar, q, Sz, Ng, Hs, Ft⟩ := V
  obtain ⟨T', h', X', e', W', st⟩ := stJ X hx hZ eT Ar (j := j) (inb_of Sz hin) hg hs hd
  exact ⟨T', h', X', e', W', Arv.set Ar q Sz Ng Hs Ft rfl W' i hj hi, st⟩
theorem own_stZ (X : Stand p l e R s m args below meth c T locs cells slots) (hx : p.tables.exec = Jvm.exec) (hZ : Z.Warmed39 s.vm) (eT : T.heap = h) (V : Arv Z h a kc .boolean z vs dv) {j : Int32} {x : Int32} (hin : ¬ j < 0 ∧ j < z) (i : Nat) (hj : j.toNatClampNeg = i) (hi : i < vs.length) (hg : g.method = m) {rest : List Value} (hs : g.stack = .int x :: .int j :: .ref a :: rest) (hd : decode c.code g.pc = .ok (.bastore, 1)) :
    ∃ T' h', Stand p l e R s m args below meth c T' (locs ++ [⟨a, j.toNatClampNeg⟩]) cells slots ∧ T'.heap = h' ∧ Wr h h' a j.toNatClampNeg (.int (nar .boolean x)) ∧ Arv Z h' a kc .boolean z (vs.set i (.int (nar .boolean x))) dv ∧ ∀ target, Steps p.tables e below (T'.setTop { g with pc := g.pc + 1, stack := rest }) target → Steps p.tables e below (T.setTop g) target := by
  obtain ⟨cl, Ar, q, Sz, Ng, Hs, Ft⟩ := V
  obtain ⟨T', h', X', e', W', st⟩ := stZ X hx hZ eT Ar (j := j) (inb_of Sz hin) hg hs hd
  exact ⟨T', h', X', e', W', Arv.set Ar q Sz Ng Hs Ft (fits_nar_bool _) W' i hj hi, st⟩
theorem own_stR (X : Stand p l e R s m args below meth c T locs cells slots) (hx : p.tables.exec = Jvm.exec) (hZ : Z.Warmed39 s.vm) (eT : T.heap = h) (V : Arv Z h a kc ty z vs dv) {j : Int32} {x : Value} (hin : ¬ j < 0 ∧ j < z) (hty : ty.isReference = true) (hf : fits ty x = true) (F : ∀ cl, Arr Z h a cl ty → cl.cls = kc → Sto Z h a x) (i : Nat) (hj : j.toNatClampNeg = i) (hi : i < vs.length) (hg : g.method = m) {rest : List Value} (hs : g.stack = x :: .int j :: .ref a :: rest) (hd : decode c.code g.pc = .ok (.aastore, 1)) :
    ∃ T' h', Stand p l e R s m args below meth c T' (locs ++ [⟨a, j.toNatClampNeg⟩]) cells slots ∧ T'.heap = h' ∧ Wr h h' a j.toNatClampNeg x ∧ Arv Z h' a kc ty z (vs.set i x) dv ∧ ∀ target, Steps p.tables e below (T'.setTop { g with pc := g.pc + 1, stack := rest }) target → Steps p.tables e below (T.setTop g) target := by
  obtain ⟨cl, Ar, q, Sz, Ng, Hs, Ft⟩ := V
  obtain ⟨T', h', X', e', W', st⟩ := stR X hx hZ eT Ar (j := j) (inb_of Sz hin) hty (F cl Ar q) hg hs hd
  exact ⟨T', h', X', e', W', Arv.set Ar q Sz Ng Hs Ft hf W' i hj hi, st⟩
end Arr
section Dbl
open Jvm.Free.XS
variable {tb : Tables} [Ours tb] {target : State} {g : JFrame}
theorem own_dloadN (h : At T m c below) (hx : tb.exec = Jvm.exec) (hg : g.method = m) {k : Fin 4} {v : UInt64} (hd : decode c.code g.pc = .ok (.dload_n k, 1)) (hl : g.locals[k.val]? = some (.val (.double v))) (hr : Steps tb e below (T.setTop { g with pc := g.pc + 1, stack := .double v :: g.stack }) target) : Steps tb e below (T.setTop g) target := by
  subst hg
  jvm_step h [h.top, hx, hd, hl]
  exact hr
theorem own_dload (h : At T m c below) (hx : tb.exec = Jvm.exec) (hg : g.method = m) {k : Nat} {v : UInt64} (hd : decode c.code g.pc = .ok (.dload k, 2)) (hl : g.locals[k]? = some (.val (.double v))) (hr : Steps tb e below (T.setTop { g with pc := g.pc + 2, stack := .double v :: g.stack }) target) : Steps tb e below (T.setTop g) target := by
  subst hg
  jvm_step h [h.top, hx, hd, hl]
  exact hr
theorem own_i2d (h : At T m c below) (hx : tb.exec = Jvm.exec) (hg : g.method = m) {x : Int32} {rest : List Value} (hd : decode c.code g.pc = .ok (.i2d, 1)) (hs : g.stack = .int x :: rest) (hr : Steps tb e below (T.setTop { g with pc := g.pc + 1, stack := .double (FP.i2d x) :: rest }) target) : Steps tb e below (T.setTop g) target := by
  subst hg
  jvm_step h [h.top, hx, hd, hs]
  exact hr
theorem own_dconst0 (h : At T m c below) (hx : tb.exec = Jvm.exec) (hg : g.method = m) (hd : decode c.code g.pc = .ok (.dconst 0, 1)) (hr : Steps tb e below (T.setTop { g with pc := g.pc + 1, stack := .double FP.dconst0 :: g.stack }) target) : Steps tb e below (T.setTop g) target := by
  subst hg
  jvm_step h [h.top, hx, hd]
  exact hr
theorem own_dconst1 (h : At T m c below) (hx : tb.exec = Jvm.exec) (hg : g.method = m) (hd : decode c.code g.pc = .ok (.dconst 1, 1)) (hr : Steps tb e below (T.setTop { g with pc := g.pc + 1, stack := .double FP.dconst1 :: g.stack }) target) : Steps tb e below (T.setTop g) target := by
  subst hg
  jvm_step h [h.top, hx, hd]
  exact hr
theorem own_pop2D (h : At T m c below) (hx : tb.exec = Jvm.exec) (hg : g.method = m) {v : UInt64} {rest : List Value} (hd : decode c.code g.pc = .ok (.pop2, 1)) (hs : g.stack = .double v :: rest) (hr : Steps tb e below (T.setTop { g with pc := g.pc + 1, stack := rest }) target) : Steps tb e below (T.setTop g) target := by
  subst hg
  jvm_step h [h.top, hx, hd, hs, Value.category]
  exact hr
theorem own_lsw (h : At T m c below) (hx : tb.exec = Jvm.exec) (hg : g.method = m) {dflt : Int} {prs : Array (Int × Int)} {len : Nat} {o : Int} {pc0 pc' : Nat} (hpc : g.pc = pc0) (hd : decode c.code g.pc = .ok (.lookupswitch dflt prs, len)) {i : Int32} {rest : List Value} (hs : g.stack = .int i :: rest) (ho : lookupswitch.offset prs.toList dflt i.toInt = o) (h0 : 0 ≤ (pc0 : Int) + o) (hp : ((pc0 : Int) + o).toNat = pc') (hk : (prs.toList.zip prs.toList.tail).all (fun q => decide (q.1.1 < q.2.1)) = true)
    (hr : Steps tb e below (T.setTop { g with pc := pc', stack := rest }) target) : Steps tb e below (T.setTop g) target := by
  subst hg hpc hp
  jvm_step h [h.top, hx, hd, hs, ho, h0, lookupswitch.wp_chain]
  exact ⟨fun a b a' b' hm => by simpa using List.all_eq_true.mp hk _ hm, hr⟩
theorem own_dcmp (h : At T m c below) (hx : tb.exec = Jvm.exec) (hg : g.method = m) {x y : UInt64} {rest : List Value} {op : CmpOp} {o : Ordering} (hd : decode c.code g.pc = .ok (.dcmp op, 1)) (hs : g.stack = .double y :: .double x :: rest) (hc : FP.dcmp x y = some o) (hr : Steps tb e below (T.setTop { g with pc := g.pc + 1, stack := .int (FP.cmpInt 0 (some o)) :: rest }) target) : Steps tb e below (T.setTop g) target := by
  subst hg
  cases o <;> (jvm_step h [h.top, hx, hd, hs, hc, cmpValue]; exact hr)
end Dbl
theorem own_ne0 {s : State} {args : Array Value} {t : Term} {x : Int32} (ev : t.eval args s none [] s = some (.int x)) (h : (Cond.not (Cond.eq t (.int (0 : Int32)))).before args s = true) : ¬ (x = (0 : Int32)) := fun q => by
  subst q
  have h' := Cond.before_iff.mp h
  have e2 : (Term.int (0 : Int32)).eval args s none [] s = some (.int (0 : Int32)) := rfl
  simp only [Cond.value, ev, e2] at h'
  simp at h'
def own_sel {α : Type} (P : Prop) [Decidable P] (x y : α) : α := if P then x else y
theorem own_sel_t {α : Type} {P : Prop} [Decidable P] {x y : α} (h : P) : own_sel P x y = x := if_pos h
theorem own_sel_f {α : Type} {P : Prop} [Decidable P] {x y : α} (h : ¬ P) : own_sel P x y = y := if_neg h
def own_b2i (P : Prop) [Decidable P] : Int32 := if P then 1 else 0
theorem own_b2i_1 {P : Prop} [Decidable P] (h : P) : own_b2i P = 1 := by rw [own_b2i, if_pos h]
theorem own_b2i_congr {P R : Prop} [Decidable P] [Decidable R] (h : P ↔ R) : own_b2i P = own_b2i R := by
  by_cases q : P
  · rw [own_b2i_1 q, own_b2i_1 (h.mp q)]
  · rw [own_b2i, own_b2i, if_neg q, if_neg (fun r => q (h.mpr r))]
theorem own_b2i_t {P : Prop} [Decidable P] (h : P) : ¬ own_b2i P = 0 := by rw [own_b2i, if_pos h]; decide
theorem own_b2i_f {P : Prop} [Decidable P] (h : ¬ P) : own_b2i P = 0 := by rw [own_b2i, if_neg h]
theorem own_sta_keep {C n d : String} {v : Value} (F : Sta Z h C n d v) (K : Keep h h' ws) (q : ∀ st ∈ ws, ∀ c, h[st]? = some c → c.vm.isStatics = false) : Sta Z h' C n d v := by
  obtain ⟨cf, i, k, f, st, cell, h1, h2, h3, h4, h5, h6, h7⟩ := F
  exact ⟨cf, i, k, f, st, cell, h1, h2, h3, h4, K.2.1 st cell h5 (fun z => by rw [q st z cell h5] at h6; cases h6), h6, h7⟩
theorem own_ws0 : ∀ st ∈ ([] : List Addr), ∀ c, h[st]? = some c → c.vm.isStatics = false := fun _ q => nomatch q
theorem own_wsE {a : Addr} {C : String} (F : Exa Z h a C) (q : ∀ st ∈ ws, ∀ c, h[st]? = some c → c.vm.isStatics = false) : ∀ st ∈ a :: ws, ∀ c, h[st]? = some c → c.vm.isStatics = false := fun st hs c hc => by
  rcases List.mem_cons.mp hs with rfl | hs
  · obtain ⟨cell, k, h1, -, -, h4, -⟩ := F; cases h1.symm.trans hc; exact h4
  · exact q st hs c hc
theorem own_wsF {a : Addr} {C n d : String} {v : Value} (F : Fld Z h a C n d v) (q : ∀ st ∈ ws, ∀ c, h[st]? = some c → c.vm.isStatics = false) : ∀ st ∈ a :: ws, ∀ c, h[st]? = some c → c.vm.isStatics = false := fun st hs c hc => by
  rcases List.mem_cons.mp hs with rfl | hs
  · exact old_plain F c hc
  · exact q st hs c hc
theorem own_wsV {a : Addr} {k : ClassId} {ty : FieldType} {z : Int32} {vs : List Value} {dv : Value} (F : Arv Z h a k ty z vs dv) (q : ∀ st ∈ ws, ∀ c, h[st]? = some c → c.vm.isStatics = false) : ∀ st ∈ a :: ws, ∀ c, h[st]? = some c → c.vm.isStatics = false := fun st hs c hc => by
  rcases List.mem_cons.mp hs with rfl | hs
  · obtain ⟨cl, A, -⟩ := F; cases A.1.symm.trans hc; exact A.plain
  · exact q st hs c hc
theorem own_kx (K : Keep h h' []) : Ext h h' := ⟨K.1, fun a c q => K.2.1 a c q nin0⟩
theorem own_ins_keep {a : Addr} {C : String} {bo : Bool} (F : Ins Z h a C bo) (K : Keep h h' ws) : Ins Z h' a C bo := by
  obtain ⟨cell, cT, h1, h2, h3⟩ := F
  obtain ⟨c', q, r1, r2, r3⟩ := K.2.2 a cell h1
  exact ⟨c', cT, q, h2, by rw [r1, r2]; exact h3⟩
end Own
theorem ow20 {Z : State} {a0 : Array Value} (hw : ∀ d ∈ tables_1, d.before a0 Z = true) : (Jvm.Cond.fieldLink "java/lang/Enum" (7 : Nat) "java/lang/Enum" "ordinal" "I").before a0 Z = true := hw _ (List.mem_of_getElem? (i := 20) rfl)
abbrev mn0 : MethodName := ⟨"java/lang/Enum", "ordinal", "()I"⟩
theorem ow13 {Z : State} {a0 : Array Value} (hw : ∀ d ∈ tables_1, d.before a0 Z = true) : (Jvm.Cond.methodLink "com/example/reckonmill/reckonmill/lib/model/tree/Comparison" (61 : Nat) ({ cls := "com/example/reckonmill/reckonmill/lib/model/tree/Comparison", name := "ordinal", desc := "()I" } : Jvm.MethodName)).before a0 Z = true := hw _ (List.mem_of_getElem? (i := 13) rfl)
theorem ow19 {Z : State} {a0 : Array Value} (hw : ∀ d ∈ tables_1, d.before a0 Z = true) : (Jvm.Cond.code ({ cls := "java/lang/Enum", name := "ordinal", desc := "()I" } : Jvm.MethodName) jdk_37_method_2_code (1 : Nat) (Option.some Jvm.ClassFile.FieldType.int)).before a0 Z = true := hw _ (List.mem_of_getElem? (i := 19) rfl)
theorem ow18 {Z : State} {a0 : Array Value} (hw : ∀ d ∈ tables_1, d.before a0 Z = true) : (Jvm.Cond.initialized "java/lang/Enum").before a0 Z = true := hw _ (List.mem_of_getElem? (i := 18) rfl)
theorem ow17 {Z : State} {a0 : Array Value} (hw : ∀ d ∈ tables_1, d.before a0 Z = true) : (Jvm.Cond.selects "com/example/reckonmill/reckonmill/lib/model/tree/Comparison" ({ cls := "com/example/reckonmill/reckonmill/lib/model/tree/Comparison", name := "ordinal", desc := "()I" } : Jvm.MethodName) ({ cls := "java/lang/Enum", name := "ordinal", desc := "()I" } : Jvm.MethodName)).before a0 Z = true := hw _ (List.mem_of_getElem? (i := 17) rfl)
theorem ow14 {Z : State} {a0 : Array Value} (hw : ∀ d ∈ tables_1, d.before a0 Z = true) : (Jvm.Cond.sameMethod "com/example/reckonmill/reckonmill/lib/model/tree/Comparison" "java/lang/Enum" "ordinal" "()I").before a0 Z = true := hw _ (List.mem_of_getElem? (i := 14) rfl)
abbrev mn1 : MethodName := ⟨"com/example/reckonmill/reckonmill/lib/model/tree/Comparison", "ordinal", "()I"⟩
theorem ow15 {Z : State} {a0 : Array Value} (hw : ∀ d ∈ tables_1, d.before a0 Z = true) : (Jvm.Cond.declares ({ cls := "java/lang/Enum", name := "ordinal", desc := "()I" } : Jvm.MethodName)).before a0 Z = true := hw _ (List.mem_of_getElem? (i := 15) rfl)
theorem ow16 {Z : State} {a0 : Array Value} (hw : ∀ d ∈ tables_1, d.before a0 Z = true) : (Jvm.Cond.instanceMethod ({ cls := "java/lang/Enum", name := "ordinal", desc := "()I" } : Jvm.MethodName)).before a0 Z = true := hw _ (List.mem_of_getElem? (i := 16) rfl)
abbrev mn2 : MethodName := ⟨"com/example/reckonmill/reckonmill/lib/model/tree/Comparison", "holds", "(DD)Z"⟩
theorem ow5 {Z : State} {a0 : Array Value} (hw : ∀ d ∈ tables_1, d.before a0 Z = true) : (Jvm.Cond.fieldLink "com/example/reckonmill/reckonmill/lib/model/tree/ComparisonHoldsPinLaw" (7 : Nat) "com/example/reckonmill/reckonmill/lib/model/tree/Comparison" "EQUAL" "Lcom/example/reckonmill/reckonmill/lib/model/tree/Comparison;").before a0 Z = true := hw _ (List.mem_of_getElem? (i := 5) rfl)
abbrev mn3 : MethodName := ⟨"com/example/reckonmill/reckonmill/lib/model/tree/ComparisonHoldsPinLaw", "pick", "(I)Lcom/example/reckonmill/reckonmill/lib/model/tree/Comparison;"⟩
theorem ow25 {Z : State} {a0 : Array Value} (hw : ∀ d ∈ tables_1, d.before a0 Z = true) : (Jvm.Cond.fieldLink "com/example/reckonmill/reckonmill/lib/model/tree/ComparisonHoldsPinLaw" (13 : Nat) "com/example/reckonmill/reckonmill/lib/model/tree/Comparison" "NOT_EQUAL" "Lcom/example/reckonmill/reckonmill/lib/model/tree/Comparison;").before a0 Z = true := hw _ (List.mem_of_getElem? (i := 25) rfl)
theorem ow33 {Z : State} {a0 : Array Value} (hw : ∀ d ∈ tables_1, d.before a0 Z = true) : (Jvm.Cond.fieldLink "com/example/reckonmill/reckonmill/lib/model/tree/ComparisonHoldsPinLaw" (16 : Nat) "com/example/reckonmill/reckonmill/lib/model/tree/Comparison" "LESS" "Lcom/example/reckonmill/reckonmill/lib/model/tree/Comparison;").before a0 Z = true := hw _ (List.mem_of_getElem? (i := 33) rfl)
theorem ow29 {Z : State} {a0 : Array Value} (hw : ∀ d ∈ tables_1, d.before a0 Z = true) : (Jvm.Cond.fieldLink "com/example/reckonmill/reckonmill/lib/model/tree/ComparisonHoldsPinLaw" (19 : Nat) "com/example/reckonmill/reckonmill/lib/model/tree/Comparison" "LESS_OR_EQUAL" "Lcom/example/reckonmill/reckonmill/lib/model/tree/Comparison;").before a0 Z = true := hw _ (List.mem_of_getElem? (i := 29) rfl)
theorem ow27 {Z : State} {a0 : Array Value} (hw : ∀ d ∈ tables_1, d.before a0 Z = true) : (Jvm.Cond.fieldLink "com/example/reckonmill/reckonmill/lib/model/tree/ComparisonHoldsPinLaw" (22 : Nat) "com/example/reckonmill/reckonmill/lib/model/tree/Comparison" "GREATER" "Lcom/example/reckonmill/reckonmill/lib/model/tree/Comparison;").before a0 Z = true := hw _ (List.mem_of_getElem? (i := 27) rfl)
theorem ow31 {Z : State} {a0 : Array Value} (hw : ∀ d ∈ tables_1, d.before a0 Z = true) : (Jvm.Cond.fieldLink "com/example/reckonmill/reckonmill/lib/model/tree/ComparisonHoldsPinLaw" (25 : Nat) "com/example/reckonmill/reckonmill/lib/model/tree/Comparison" "GREATER_OR_EQUAL" "Lcom/example/reckonmill/reckonmill/lib/model/tree/Comparison;").before a0 Z = true := hw _ (List.mem_of_getElem? (i := 31) rfl)
abbrev mn4 : MethodName := ⟨"com/example/reckonmill/reckonmill/lib/model/tree/ComparisonHoldsPinLaw", "expected", "(II)Z"⟩
theorem ow0 {Z : State} {a0 : Array Value} (hw : ∀ d ∈ tables_1, d.before a0 Z = true) : (Jvm.Cond.constant "com/example/reckonmill/reckonmill/lib/model/tree/ComparisonHoldsPinLaw" (28 : Nat) (2147483647 : Int32)).before a0 Z = true := hw _ (List.mem_of_getElem? (i := 0) rfl)
theorem ow1 {Z : State} {a0 : Array Value} (hw : ∀ d ∈ tables_1, d.before a0 Z = true) : (Jvm.Cond.methodLink "com/example/reckonmill/reckonmill/lib/model/tree/ComparisonHoldsPinLaw" (29 : Nat) ({ cls := "com/example/reckonmill/reckonmill/lib/model/tree/ComparisonHoldsPinLaw", name := "pick", desc := "(I)Lcom/example/reckonmill/reckonmill/lib/model/tree/Comparison;" } : Jvm.MethodName)).before a0 Z = true := hw _ (List.mem_of_getElem? (i := 1) rfl)
theorem ow4 {Z : State} {a0 : Array Value} (hw : ∀ d ∈ tables_1, d.before a0 Z = true) : (Jvm.Cond.code ({ cls := "com/example/reckonmill/reckonmill/lib/model/tree/ComparisonHoldsPinLaw", name := "pick", desc := "(I)Lcom/example/reckonmill/reckonmill/lib/model/tree/Comparison;" } : Jvm.MethodName) method_2_code (1 : Nat) (Option.some (Jvm.ClassFile.FieldType.object "com/example/reckonmill/reckonmill/lib/model/tree/Comparison"))).before a0 Z = true := hw _ (List.mem_of_getElem? (i := 4) rfl)
theorem ow3 {Z : State} {a0 : Array Value} (hw : ∀ d ∈ tables_1, d.before a0 Z = true) : (Jvm.Cond.initialized "com/example/reckonmill/reckonmill/lib/model/tree/ComparisonHoldsPinLaw").before a0 Z = true := hw _ (List.mem_of_getElem? (i := 3) rfl)
theorem ow2 {Z : State} {a0 : Array Value} (hw : ∀ d ∈ tables_1, d.before a0 Z = true) : (Jvm.Cond.static ({ cls := "com/example/reckonmill/reckonmill/lib/model/tree/ComparisonHoldsPinLaw", name := "pick", desc := "(I)Lcom/example/reckonmill/reckonmill/lib/model/tree/Comparison;" } : Jvm.MethodName)).before a0 Z = true := hw _ (List.mem_of_getElem? (i := 2) rfl)
theorem ow8 {Z : State} {a0 : Array Value} (hw : ∀ d ∈ tables_1, d.before a0 Z = true) : (Jvm.Cond.methodLink "com/example/reckonmill/reckonmill/lib/model/tree/ComparisonHoldsPinLaw" (35 : Nat) ({ cls := "com/example/reckonmill/reckonmill/lib/model/tree/Comparison", name := "holds", desc := "(DD)Z" } : Jvm.MethodName)).before a0 Z = true := hw _ (List.mem_of_getElem? (i := 8) rfl)
theorem ow12 {Z : State} {a0 : Array Value} (hw : ∀ d ∈ tables_1, d.before a0 Z = true) : (Jvm.Cond.code ({ cls := "com/example/reckonmill/reckonmill/lib/model/tree/Comparison", name := "holds", desc := "(DD)Z" } : Jvm.MethodName) prog_17_method_6_code (6 : Nat) (Option.some Jvm.ClassFile.FieldType.boolean)).before a0 Z = true := hw _ (List.mem_of_getElem? (i := 12) rfl)
theorem ow6 {Z : State} {a0 : Array Value} (hw : ∀ d ∈ tables_1, d.before a0 Z = true) : (Jvm.Cond.initialized "com/example/reckonmill/reckonmill/lib/model/tree/Comparison").before a0 Z = true := hw _ (List.mem_of_getElem? (i := 6) rfl)
theorem ow11 {Z : State} {a0 : Array Value} (hw : ∀ d ∈ tables_1, d.before a0 Z = true) : (Jvm.Cond.selects "com/example/reckonmill/reckonmill/lib/model/tree/Comparison" ({ cls := "com/example/reckonmill/reckonmill/lib/model/tree/Comparison", name := "holds", desc := "(DD)Z" } : Jvm.MethodName) ({ cls := "com/example/reckonmill/reckonmill/lib/model/tree/Comparison", name := "holds", desc := "(DD)Z" } : Jvm.MethodName)).before a0 Z = true := hw _ (List.mem_of_getElem? (i := 11) rfl)
theorem ow9 {Z : State} {a0 : Array Value} (hw : ∀ d ∈ tables_1, d.before a0 Z = true) : (Jvm.Cond.declares ({ cls := "com/example/reckonmill/reckonmill/lib/model/tree/Comparison", name := "holds", desc := "(DD)Z" } : Jvm.MethodName)).before a0 Z = true := hw _ (List.mem_of_getElem? (i := 9) rfl)
theorem ow10 {Z : State} {a0 : Array Value} (hw : ∀ d ∈ tables_1, d.before a0 Z = true) : (Jvm.Cond.instanceMethod ({ cls := "com/example/reckonmill/reckonmill/lib/model/tree/Comparison", name := "holds", desc := "(DD)Z" } : Jvm.MethodName)).before a0 Z = true := hw _ (List.mem_of_getElem? (i := 10) rfl)
theorem ow22 {Z : State} {a0 : Array Value} (hw : ∀ d ∈ tables_1, d.before a0 Z = true) : (Jvm.Cond.methodLink "com/example/reckonmill/reckonmill/lib/model/tree/ComparisonHoldsPinLaw" (39 : Nat) ({ cls := "com/example/reckonmill/reckonmill/lib/model/tree/ComparisonHoldsPinLaw", name := "expected", desc := "(II)Z" } : Jvm.MethodName)).before a0 Z = true := hw _ (List.mem_of_getElem? (i := 22) rfl)
theorem ow24 {Z : State} {a0 : Array Value} (hw : ∀ d ∈ tables_1, d.before a0 Z = true) : (Jvm.Cond.code ({ cls := "com/example/reckonmill/reckonmill/lib/model/tree/ComparisonHoldsPinLaw", name := "expected", desc := "(II)Z" } : Jvm.MethodName) method_3_code (2 : Nat) (Option.some Jvm.ClassFile.FieldType.boolean)).before a0 Z = true := hw _ (List.mem_of_getElem? (i := 24) rfl)
theorem ow23 {Z : State} {a0 : Array Value} (hw : ∀ d ∈ tables_1, d.before a0 Z = true) : (Jvm.Cond.static ({ cls := "com/example/reckonmill/reckonmill/lib/model/tree/ComparisonHoldsPinLaw", name := "expected", desc := "(II)Z" } : Jvm.MethodName)).before a0 Z = true := hw _ (List.mem_of_getElem? (i := 23) rfl)
theorem ow7 {Z : State} {a0 : Array Value} (hw : ∀ d ∈ tables_1, d.before a0 Z = true) : (Jvm.Cond.laysStatic "com/example/reckonmill/reckonmill/lib/model/tree/Comparison" "EQUAL" "Lcom/example/reckonmill/reckonmill/lib/model/tree/Comparison;").before a0 Z = true := hw _ (List.mem_of_getElem? (i := 7) rfl)
theorem ow26 {Z : State} {a0 : Array Value} (hw : ∀ d ∈ tables_1, d.before a0 Z = true) : (Jvm.Cond.laysStatic "com/example/reckonmill/reckonmill/lib/model/tree/Comparison" "NOT_EQUAL" "Lcom/example/reckonmill/reckonmill/lib/model/tree/Comparison;").before a0 Z = true := hw _ (List.mem_of_getElem? (i := 26) rfl)
theorem ow28 {Z : State} {a0 : Array Value} (hw : ∀ d ∈ tables_1, d.before a0 Z = true) : (Jvm.Cond.laysStatic "com/example/reckonmill/reckonmill/lib/model/tree/Comparison" "GREATER" "Lcom/example/reckonmill/reckonmill/lib/model/tree/Comparison;").before a0 Z = true := hw _ (List.mem_of_getElem? (i := 28) rfl)
theorem ow30 {Z : State} {a0 : Array Value} (hw : ∀ d ∈ tables_1, d.before a0 Z = true) : (Jvm.Cond.laysStatic "com/example/reckonmill/reckonmill/lib/model/tree/Comparison" "LESS_OR_EQUAL" "Lcom/example/reckonmill/reckonmill/lib/model/tree/Comparison;").before a0 Z = true := hw _ (List.mem_of_getElem? (i := 30) rfl)
theorem ow32 {Z : State} {a0 : Array Value} (hw : ∀ d ∈ tables_1, d.before a0 Z = true) : (Jvm.Cond.laysStatic "com/example/reckonmill/reckonmill/lib/model/tree/Comparison" "GREATER_OR_EQUAL" "Lcom/example/reckonmill/reckonmill/lib/model/tree/Comparison;").before a0 Z = true := hw _ (List.mem_of_getElem? (i := 32) rfl)
theorem ow34 {Z : State} {a0 : Array Value} (hw : ∀ d ∈ tables_1, d.before a0 Z = true) : (Jvm.Cond.laysStatic "com/example/reckonmill/reckonmill/lib/model/tree/Comparison" "LESS" "Lcom/example/reckonmill/reckonmill/lib/model/tree/Comparison;").before a0 Z = true := hw _ (List.mem_of_getElem? (i := 34) rfl)
theorem own_fld_of {s : State} {args : Array Value} {t : Term} {a : Addr} {C n d : String} {k : Int32} (ev : t.eval args s none [] s = some (.ref a)) (h : (Cond.eq (.field t C n d) (.int k)).value args s none s [] = some true) : Fld s s.heap a C n d (.int k) := by
  obtain ⟨x, y, h1, h2, k1, k2⟩ := cmp_v (Or.inl h)
  have h3 : y = .int k := (Option.some.inj h2).symm
  subst h3
  obtain ⟨z, rfl⟩ := k2
  have hz : z = k := by
    have h' := h
    simp only [Cond.value, h1, h2] at h'
    simpa using h'
  subst hz
  refine Fld.start ?_
  simpa [Term.eval, ev] using h1
theorem own_mod6 (k : Int32) {z : Int32} (hz : (k &&& (2147483647 : Int32)) % (6 : Int32) = z) : z = 0 ∨ z = 1 ∨ z = 2 ∨ z = 3 ∨ z = 4 ∨ z = 5 := by
  have h1 := (c_andS k 2147483647).2.2 (by decide)
  have h2 := (c_irem (k &&& 2147483647) 6 6 (by decide)).1 h1
  rw [hz] at h2
  have h3 : z.toInt = 0 ∨ z.toInt = 1 ∨ z.toInt = 2 ∨ z.toInt = 3 ∨ z.toInt = 4 ∨ z.toInt = 5 := by omega
  rcases h3 with h | h | h | h | h | h
  · exact Or.inl (Int32.toInt_inj.mp h)
  · exact Or.inr (Or.inl (Int32.toInt_inj.mp h))
  · exact Or.inr (Or.inr (Or.inl (Int32.toInt_inj.mp h)))
  · exact Or.inr (Or.inr (Or.inr (Or.inl (Int32.toInt_inj.mp h))))
  · exact Or.inr (Or.inr (Or.inr (Or.inr (Or.inl (Int32.toInt_inj.mp h)))))
  · exact Or.inr (Or.inr (Or.inr (Or.inr (Or.inr (Int32.toInt_inj.mp h)))))
theorem own_dc (a y : Int32) : FP.dcmp (FP.i2d a) (FP.i2d y) = some (compare a.toInt y.toInt) := FP.Core.dcmp_int (FP.Core.i2d_int a) (FP.Core.i2d_int y)
theorem own_dlt {a y : Int32} (h : a < y) : FP.dcmp (FP.i2d a) (FP.i2d y) = some .lt := by
  rw [own_dc]; rw [Int32.lt_iff_toInt_lt] at h; exact congrArg some (by simp only [compare, compareOfLessAndEq]; rw [if_pos h])
theorem own_deq {a y : Int32} (h : a = y) : FP.dcmp (FP.i2d a) (FP.i2d y) = some .eq := by
  rw [own_dc, h]; exact congrArg some (by simp [compare, compareOfLessAndEq])
theorem own_dgt {a y : Int32} (h : ¬ a < y) (h' : ¬ a = y) : FP.dcmp (FP.i2d a) (FP.i2d y) = some .gt := by
  rw [own_dc]; rw [Int32.lt_iff_toInt_lt] at h; rw [← Int32.toInt_inj] at h'; exact congrArg some (by simp only [compare, compareOfLessAndEq]; rw [if_neg h, if_neg h'])
theorem d3_0 : decode jdk_37_method_2_code 0 = .ok (.aload_n 0, 1) := by decide +kernel
theorem d3_1 : decode jdk_37_method_2_code 1 = .ok (.getfield 7, 3) := by decide +kernel
theorem d3_4 : decode jdk_37_method_2_code 4 = .ok (.ireturn, 1) := by decide +kernel
theorem pn_2 : plainName "java/lang/Enum" = true := by first | (simp [plainName, overriddenIn]; done) | decide +kernel
theorem ef_rm3 (m : MethodId) (y0 : Addr) : entryFrame m #[(.ref y0)] 1 = mkF m 0 #[.val (.ref y0)] [] := by first | (simp [entryFrame, mkF, argsToLocals, Value.category]; done) | rfl
def Q3 (Z : State) (y0 : Addr) (u : Int32) (h0 : Heap) (n0 : Nat) (v : Option Value) (h : Heap) (L : List Loc) : Prop := v = some (.int u) ∧ Fr n0 L ∧ h = h0
set_option maxRecDepth 65536 in
set_option maxHeartbeats 40000000 in
theorem rm3 (l : Launch) (Z : State) (a0 : Array Value) (hw : ∀ d ∈ tables_1, d.before a0 Z = true) (ws : List Jvm.Cond) (y0 : Addr) (u : Int32) (h0 : Heap) (n0 : Nat) (Z0 : n0 ≤ h0.size) (F_o : Fld Z h0 y0 "java/lang/Enum" "ordinal" "I" (.int u)) :
    MetFree l mn0 (head1 (Jvm.Cond.code mn0 jdk_37_method_2_code 1 (some .int) :: ws) ({ frames := 0, cells := 0, slots := 0, locals := 0 } : Room)) (fun a U => a = #[(.ref y0)] ∧ Z.Warmed39 U.vm ∧ U.heap = h0) (fun _ _ _ _ _ => True) (fun _ U o U' => ∃ v L, o = .returned v ∧ Q3 Z y0 u h0 n0 v U'.heap L ∧ FrameEnd U o U' L ({ frames := 0, cells := 0, slots := 0, locals := 0 } : Room).cells ({ frames := 0, cells := 0, slots := 0, locals := 0 } : Room).slots) := by
  refine MetFree.of_bodySF (plainFor_of_name pn_2) hisR ?_
  intro p e s m args below meth c s₁ Bd hml0 hP hK
  obtain ⟨rfl, hZ, hh⟩ := hP
  have hx := Bd.exec
  have hby := Bd.bytes
  have hml : c.maxLocals = 1 := hml0
  have hown : s.vm.findClass "java/lang/Enum" = some m.cls := findClass_of_methodNamed Bd.named
  have hnm := (name_of_methodNamed Bd.named Bd.method).1
  have X0 : Stand p l e ({ frames := 0, cells := 0, slots := 0, locals := 0 } : Room) s m #[(.ref y0)] below meth c s₁ [] 0 0 := Stand.of_body Bd
  have e0 : s₁.heap = h0 := by rw [← hh, Bd.state]; rfl
  have N0 := Fr.nil n0
  show own_Ends p e below s (Q3 Z y0 u h0 n0) _ _ s₁ _
  rw [ef_rm3 m y0]
  refine own_go (T' := s₁) (f' := (mkF m 1 #[.val (.ref y0)] [(.ref y0)])) (fun _ k => XS.aloadN X0.here hx rfl (hb hby d3_0) rfl rfl k) ?_
  obtain ⟨T1, X1, e1, st1⟩ := getF X0 hx hZ hown (host := "") (Or.inl (ow20 hw)) Via.refl e0 F_o (g := (mkF m 1 #[.val (.ref y0)] [(.ref y0)])) rfl rfl (hb hby d3_1)
  refine own_go (T' := T1) (f' := (mkF m 4 #[.val (.ref y0)] [(.int u)])) (fun _ k => st1 _ k) ?_
  refine own_ret X1 (v := some (.int u)) (fun h => by rw [Bd.returns] at h; cases h) Bd.notSynchronized (fun fs hr => retI X1 hx Bd.returns (hb hby d3_4) hr) ?_ (by decide) (by decide)
  show Q3 Z y0 u h0 n0 _ T1.heap _
  exact ⟨rfl, N0, e1⟩
theorem pd0 : parseMethodDescriptor "()I" = some ⟨[], some .int⟩ := by decide +kernel
theorem d2_0 : decode prog_17_method_6_code 0 = .ok (.aload_n 0, 1) := by decide +kernel
theorem d2_1 : decode prog_17_method_6_code 1 = .ok (.invokevirtual 61, 3) := by decide +kernel
theorem d2_4 : decode prog_17_method_6_code 4 = .ok (.tableswitch 116 0 4 #[36, 52, 68, 84, 100], 36) := by decide +kernel
theorem d2_40 : decode prog_17_method_6_code 40 = .ok (.dload_n 1, 1) := by decide +kernel
theorem d2_41 : decode prog_17_method_6_code 41 = .ok (.dload_n 3, 1) := by decide +kernel
theorem d2_42 : decode prog_17_method_6_code 42 = .ok (.dcmp .l, 1) := by decide +kernel
theorem d2_43 : decode prog_17_method_6_code 43 = .ok (.ifCond .ne 7, 3) := by decide +kernel
theorem d2_50 : decode prog_17_method_6_code 50 = .ok (.iconst 0, 1) := by decide +kernel
theorem d2_51 : decode prog_17_method_6_code 51 = .ok (.istore 5, 2) := by decide +kernel
theorem d2_53 : decode prog_17_method_6_code 53 = .ok (.goto 80, 3) := by decide +kernel
theorem d2_133 : decode prog_17_method_6_code 133 = .ok (.iload 5, 2) := by decide +kernel
theorem d2_135 : decode prog_17_method_6_code 135 = .ok (.ireturn, 1) := by decide +kernel
theorem pn_0 : plainName "com/example/reckonmill/reckonmill/lib/model/tree/Comparison" = true := by first | (simp [plainName, overriddenIn]; done) | decide +kernel
theorem ef_rm2_0lt (m : MethodId) (y0 : Addr) (y1 : UInt64) (y2 : UInt64) : entryFrame m #[(.ref y0), (.double y1), (.double y2)] 6 = mkF m 0 #[.val (.ref y0), .val (.double y1), .second, .val (.double y2), .second, .unset] [] := by first | (simp [entryFrame, mkF, argsToLocals, Value.category]; done) | rfl
def Q2_0lt (Z : State) (y0 : Addr) (y1 : UInt64) (y2 : UInt64) (h0 : Heap) (n0 : Nat) (v : Option Value) (h : Heap) (L : List Loc) : Prop := v = some (.int (0 : Int32)) ∧ Fr n0 L ∧ h = h0
set_option maxRecDepth 65536 in
set_option maxHeartbeats 40000000 in
theorem rm2_0lt (l : Launch) (Z : State) (a0 : Array Value) (hw : ∀ d ∈ tables_1, d.before a0 Z = true) (ws : List Jvm.Cond) (y0 : Addr) (y1 : UInt64) (y2 : UInt64) (h0 : Heap) (n0 : Nat) (Z0 : n0 ≤ h0.size) (F_o : Fld Z h0 y0 "java/lang/Enum" "ordinal" "I" (.int (0 : Int32))) (E_y0 : Exa Z h0 y0 "com/example/reckonmill/reckonmill/lib/model/tree/Comparison") (hcmp : FP.dcmp y1 y2 = some .lt) :
    MetFree l mn2 (head1 (Jvm.Cond.code mn2 prog_17_method_6_code 6 (some .boolean) :: ws) ({ frames := 1, cells := 0, slots := 0, locals := 12 } : Room)) (fun a U => a = #[(.ref y0), (.double y1), (.double y2)] ∧ Z.Warmed39 U.vm ∧ U.heap = h0) (fun _ _ _ _ _ => True) (fun _ U o U' => ∃ v L, o = .returned v ∧ Q2_0lt Z y0 y1 y2 h0 n0 v U'.heap L ∧ FrameEnd U o U' L ({ frames := 1, cells := 0, slots := 0, locals := 12 } : Room).cells ({ frames := 1, cells := 0, slots := 0, locals := 12 } : Room).slots) := by
  refine MetFree.of_bodySF (plainFor_of_name pn_0) hisR ?_
  intro p e s m args below meth c s₁ Bd hml0 hP hK
  obtain ⟨rfl, hZ, hh⟩ := hP
  have hx := Bd.exec
  have hby := Bd.bytes
  have hml : c.maxLocals = 6 := hml0
  have hown : s.vm.findClass "com/example/reckonmill/reckonmill/lib/model/tree/Comparison" = some m.cls := findClass_of_methodNamed Bd.named
  have hnm := (name_of_methodNamed Bd.named Bd.method).1
  have X0 : Stand p l e ({ frames := 1, cells := 0, slots := 0, locals := 12 } : Room) s m #[(.ref y0), (.double y1), (.double y2)] below meth c s₁ [] 0 0 := Stand.of_body Bd
  have e0 : s₁.heap = h0 := by rw [← hh, Bd.state]; rfl
  have N0 := Fr.nil n0
  show own_Ends p e below s (Q2_0lt Z y0 y1 y2 h0 n0) _ _ s₁ _
  rw [ef_rm2_0lt m y0 y1 y2]
  refine own_go (T' := s₁) (f' := (mkF m 1 #[.val (.ref y0), .val (.double y1), .second, .val (.double y2), .second, .unset] [(.ref y0)])) (fun _ k => XS.aloadN X0.here hx rfl (hb hby d2_0) rfl rfl k) ?_
  obtain ⟨cq1, kq1, q1a, q1b, q1c⟩ := isOf hZ e0 E_y0
  obtain ⟨_, _, ⟨T1, L1, k1, n1⟩, -, X1, ⟨Lc1, hQ1, l1, y1, z1⟩, st1⟩ := X0.virtualBackUp hx (owner := "java/lang/Enum") (x := mn1) (y := mn0) hown (mvT hZ (ow13 hw)) (mvT hZ (ow14 hw)) (mvT hZ (ow15 hw)) (by decide) (mvT hZ (ow17 hw)) (mvT hZ (ow16 hw)) (backOf (W := 0) (rm3 l Z a0 hw [] y0 (0 : Int32) h0 n0 Z0 F_o) hZ (ow19 hw) (ow18 hw) (by decide) (by decide)) q1a q1c (g := (mkF m 1 #[.val (.ref y0), .val (.double y1), .second, .val (.double y2), .second, .unset] [(.ref y0)])) rfl (by rw [hml]; rfl) (Steps.refl _) (argsL := []) (rest := []) (lenOf pd0 rfl) rfl (by show 2 * 0 + _ ≤ _; exact Nat.le_of_eq rfl) (hb hby d2_1) (fun _ _ => ⟨rfl, e0, (by decide : 0 + 0 ≤ _), (by decide : 0 + 0 ≤ _)⟩)
  dsimp only [Pt.U, Pt.locs, Pt.cells, Pt.slots] at X1 l1 y1 z1 st1 hQ1
  subst l1 y1 z1
  obtain ⟨rfl, N1q, hh1⟩ := hQ1
  have N1 := Fr.app N0 N1q
  refine own_go (T' := T1) (f' := (mkF m 50 #[.val (.ref y0), .val (.double y1), .second, .val (.double y2), .second, .unset] [])) (fun _ k => st1.trans (XS.tswIn X1.here hx rfl (o := 36) (pc0 := 4) (pc' := 40) rfl (hb hby d2_4) rfl (by decide) rfl (by decide) (by decide) (own_dloadN X1.here hx rfl (hb hby d2_40) rfl (own_dloadN X1.here hx rfl (hb hby d2_41) rfl (own_dcmp (o := .lt) X1.here hx rfl (hb hby d2_42) rfl hcmp (XS.ifYes X1.here hx rfl (pc0 := 43) (pc' := 50) rfl (hb hby d2_43) rfl ((if0 _ _).trans (feq (by decide : ¬ ((-1 : Int32) = (0 : Int32)))).2) (by decide) (by decide) k)))))) ?_
  refine own_go (T' := T1) (f' := (mkF m 135 #[.val (.ref y0), .val (.double y1), .second, .val (.double y2), .second, .val (.int (0 : Int32))] [(.int (0 : Int32))])) (fun _ k => XS.iconst X1.here hx rfl (hb hby d2_50) (XS.istore X1.here hx rfl (hb hby d2_51) rfl (l' := #[.val (.ref y0), .val (.double y1), .second, .val (.double y2), .second, .val (.int (0 : Int32))]) rfl (XS.goto X1.here hx rfl (pc0 := 53) (pc' := 133) rfl (hb hby d2_53) (by decide) (by decide) (XS.iload X1.here hx rfl (hb hby d2_133) rfl k)))) ?_
  refine own_ret X1 (v := some (.int (0 : Int32))) (fun h => by rw [Bd.returns] at h; cases h) Bd.notSynchronized (fun fs hr => retN X1 hx (t := .boolean) Bd.returns (by simp) (hb hby d2_135) hr) ?_ (by decide) (by decide)
  show Q2_0lt Z y0 y1 y2 h0 n0 _ T1.heap _
  exact ⟨rfl, N1, hh1⟩
theorem d2_46 : decode prog_17_method_6_code 46 = .ok (.iconst 1, 1) := by decide +kernel
theorem d2_47 : decode prog_17_method_6_code 47 = .ok (.goto 4, 3) := by decide +kernel
theorem ef_rm2_0eq (m : MethodId) (y0 : Addr) (y1 : UInt64) (y2 : UInt64) : entryFrame m #[(.ref y0), (.double y1), (.double y2)] 6 = mkF m 0 #[.val (.ref y0), .val (.double y1), .second, .val (.double y2), .second, .unset] [] := by first | (simp [entryFrame, mkF, argsToLocals, Value.category]; done) | rfl
def Q2_0eq (Z : State) (y0 : Addr) (y1 : UInt64) (y2 : UInt64) (h0 : Heap) (n0 : Nat) (v : Option Value) (h : Heap) (L : List Loc) : Prop := v = some (.int (1 : Int32)) ∧ Fr n0 L ∧ h = h0
set_option maxRecDepth 65536 in
set_option maxHeartbeats 40000000 in
theorem rm2_0eq (l : Launch) (Z : State) (a0 : Array Value) (hw : ∀ d ∈ tables_1, d.before a0 Z = true) (ws : List Jvm.Cond) (y0 : Addr) (y1 : UInt64) (y2 : UInt64) (h0 : Heap) (n0 : Nat) (Z0 : n0 ≤ h0.size) (F_o : Fld Z h0 y0 "java/lang/Enum" "ordinal" "I" (.int (0 : Int32))) (E_y0 : Exa Z h0 y0 "com/example/reckonmill/reckonmill/lib/model/tree/Comparison") (hcmp : FP.dcmp y1 y2 = some .eq) :
    MetFree l mn2 (head1 (Jvm.Cond.code mn2 prog_17_method_6_code 6 (some .boolean) :: ws) ({ frames := 1, cells := 0, slots := 0, locals := 12 } : Room)) (fun a U => a = #[(.ref y0), (.double y1), (.double y2)] ∧ Z.Warmed39 U.vm ∧ U.heap = h0) (fun _ _ _ _ _ => True) (fun _ U o U' => ∃ v L, o = .returned v ∧ Q2_0eq Z y0 y1 y2 h0 n0 v U'.heap L ∧ FrameEnd U o U' L ({ frames := 1, cells := 0, slots := 0, locals := 12 } : Room).cells ({ frames := 1, cells := 0, slots := 0, locals := 12 } : Room).slots) := by
  refine MetFree.of_bodySF (plainFor_of_name pn_0) hisR ?_
  intro p e s m args below meth c s₁ Bd hml0 hP hK
  obtain ⟨rfl, hZ, hh⟩ := hP
  have hx := Bd.exec
  have hby := Bd.bytes
  have hml : c.maxLocals = 6 := hml0
  have hown : s.vm.findClass "com/example/reckonmill/reckonmill/lib/model/tree/Comparison" = some m.cls := findClass_of_methodNamed Bd.named
  have hnm := (name_of_methodNamed Bd.named Bd.method).1
  have X0 : Stand p l e ({ frames := 1, cells := 0, slots := 0, locals := 12 } : Room) s m #[(.ref y0), (.double y1), (.double y2)] below meth c s₁ [] 0 0 := Stand.of_body Bd
  have e0 : s₁.heap = h0 := by rw [← hh, Bd.state]; rfl
  have N0 := Fr.nil n0
  show own_Ends p e below s (Q2_0eq Z y0 y1 y2 h0 n0) _ _ s₁ _
  rw [ef_rm2_0eq m y0 y1 y2]
  refine own_go (T' := s₁) (f' := (mkF m 1 #[.val (.ref y0), .val (.double y1), .second, .val (.double y2), .second, .unset] [(.ref y0)])) (fun _ k => XS.aloadN X0.here hx rfl (hb hby d2_0) rfl rfl k) ?_
  obtain ⟨cq1, kq1, q1a, q1b, q1c⟩ := isOf hZ e0 E_y0
  obtain ⟨_, _, ⟨T1, L1, k1, n1⟩, -, X1, ⟨Lc1, hQ1, l1, y1, z1⟩, st1⟩ := X0.virtualBackUp hx (owner := "java/lang/Enum") (x := mn1) (y := mn0) hown (mvT hZ (ow13 hw)) (mvT hZ (ow14 hw)) (mvT hZ (ow15 hw)) (by decide) (mvT hZ (ow17 hw)) (mvT hZ (ow16 hw)) (backOf (W := 0) (rm3 l Z a0 hw [] y0 (0 : Int32) h0 n0 Z0 F_o) hZ (ow19 hw) (ow18 hw) (by decide) (by decide)) q1a q1c (g := (mkF m 1 #[.val (.ref y0), .val (.double y1), .second, .val (.double y2), .second, .unset] [(.ref y0)])) rfl (by rw [hml]; rfl) (Steps.refl _) (argsL := []) (rest := []) (lenOf pd0 rfl) rfl (by show 2 * 0 + _ ≤ _; exact Nat.le_of_eq rfl) (hb hby d2_1) (fun _ _ => ⟨rfl, e0, (by decide : 0 + 0 ≤ _), (by decide : 0 + 0 ≤ _)⟩)
  dsimp only [Pt.U, Pt.locs, Pt.cells, Pt.slots] at X1 l1 y1 z1 st1 hQ1
  subst l1 y1 z1
  obtain ⟨rfl, N1q, hh1⟩ := hQ1
  have N1 := Fr.app N0 N1q
  refine own_go (T' := T1) (f' := (mkF m 46 #[.val (.ref y0), .val (.double y1), .second, .val (.double y2), .second, .unset] [])) (fun _ k => st1.trans (XS.tswIn X1.here hx rfl (o := 36) (pc0 := 4) (pc' := 40) rfl (hb hby d2_4) rfl (by decide) rfl (by decide) (by decide) (own_dloadN X1.here hx rfl (hb hby d2_40) rfl (own_dloadN X1.here hx rfl (hb hby d2_41) rfl (own_dcmp (o := .eq) X1.here hx rfl (hb hby d2_42) rfl hcmp (XS.ifNo X1.here hx rfl (hb hby d2_43) rfl ((if0 _ _).trans (teq (by decide : ((0 : Int32) = (0 : Int32)))).2) k)))))) ?_
  refine own_go (T' := T1) (f' := (mkF m 135 #[.val (.ref y0), .val (.double y1), .second, .val (.double y2), .second, .val (.int (1 : Int32))] [(.int (1 : Int32))])) (fun _ k => XS.iconst X1.here hx rfl (hb hby d2_46) (XS.goto X1.here hx rfl (pc0 := 47) (pc' := 51) rfl (hb hby d2_47) (by decide) (by decide) (XS.istore X1.here hx rfl (hb hby d2_51) rfl (l' := #[.val (.ref y0), .val (.double y1), .second, .val (.double y2), .second, .val (.int (1 : Int32))]) rfl (XS.goto X1.here hx rfl (pc0 := 53) (pc' := 133) rfl (hb hby d2_53) (by decide) (by decide) (XS.iload X1.here hx rfl (hb hby d2_133) rfl k))))) ?_
  refine own_ret X1 (v := some (.int (1 : Int32))) (fun h => by rw [Bd.returns] at h; cases h) Bd.notSynchronized (fun fs hr => retN X1 hx (t := .boolean) Bd.returns (by simp) (hb hby d2_135) hr) ?_ (by decide) (by decide)
  show Q2_0eq Z y0 y1 y2 h0 n0 _ T1.heap _
  exact ⟨rfl, N1, hh1⟩
theorem ef_rm2_0gt (m : MethodId) (y0 : Addr) (y1 : UInt64) (y2 : UInt64) : entryFrame m #[(.ref y0), (.double y1), (.double y2)] 6 = mkF m 0 #[.val (.ref y0), .val (.double y1), .second, .val (.double y2), .second, .unset] [] := by first | (simp [entryFrame, mkF, argsToLocals, Value.category]; done) | rfl
def Q2_0gt (Z : State) (y0 : Addr) (y1 : UInt64) (y2 : UInt64) (h0 : Heap) (n0 : Nat) (v : Option Value) (h : Heap) (L : List Loc) : Prop := v = some (.int (0 : Int32)) ∧ Fr n0 L ∧ h = h0
set_option maxRecDepth 65536 in
set_option maxHeartbeats 40000000 in
theorem rm2_0gt (l : Launch) (Z : State) (a0 : Array Value) (hw : ∀ d ∈ tables_1, d.before a0 Z = true) (ws : List Jvm.Cond) (y0 : Addr) (y1 : UInt64) (y2 : UInt64) (h0 : Heap) (n0 : Nat) (Z0 : n0 ≤ h0.size) (F_o : Fld Z h0 y0 "java/lang/Enum" "ordinal" "I" (.int (0 : Int32))) (E_y0 : Exa Z h0 y0 "com/example/reckonmill/reckonmill/lib/model/tree/Comparison") (hcmp : FP.dcmp y1 y2 = some .gt) :
    MetFree l mn2 (head1 (Jvm.Cond.code mn2 prog_17_method_6_code 6 (some .boolean) :: ws) ({ frames := 1, cells := 0, slots := 0, locals := 12 } : Room)) (fun a U => a = #[(.ref y0), (.double y1), (.double y2)] ∧ Z.Warmed39 U.vm ∧ U.heap = h0) (fun _ _ _ _ _ => True) (fun _ U o U' => ∃ v L, o = .returned v ∧ Q2_0gt Z y0 y1 y2 h0 n0 v U'.heap L ∧ FrameEnd U o U' L ({ frames := 1, cells := 0, slots := 0, locals := 12 } : Room).cells ({ frames := 1, cells := 0, slots := 0, locals := 12 } : Room).slots) := by
  refine MetFree.of_bodySF (plainFor_of_name pn_0) hisR ?_
  intro p e s m args below meth c s₁ Bd hml0 hP hK
  obtain ⟨rfl, hZ, hh⟩ := hP
  have hx := Bd.exec
  have hby := Bd.bytes
  have hml : c.maxLocals = 6 := hml0
  have hown : s.vm.findClass "com/example/reckonmill/reckonmill/lib/model/tree/Comparison" = some m.cls := findClass_of_methodNamed Bd.named
  have hnm := (name_of_methodNamed Bd.named Bd.method).1
  have X0 : Stand p l e ({ frames := 1, cells := 0, slots := 0, locals := 12 } : Room) s m #[(.ref y0), (.double y1), (.double y2)] below meth c s₁ [] 0 0 := Stand.of_body Bd
  have e0 : s₁.heap = h0 := by rw [← hh, Bd.state]; rfl
  have N0 := Fr.nil n0
  show own_Ends p e below s (Q2_0gt Z y0 y1 y2 h0 n0) _ _ s₁ _
  rw [ef_rm2_0gt m y0 y1 y2]
  refine own_go (T' := s₁) (f' := (mkF m 1 #[.val (.ref y0), .val (.double y1), .second, .val (.double y2), .second, .unset] [(.ref y0)])) (fun _ k => XS.aloadN X0.here hx rfl (hb hby d2_0) rfl rfl k) ?_
  obtain ⟨cq1, kq1, q1a, q1b, q1c⟩ := isOf hZ e0 E_y0
  obtain ⟨_, _, ⟨T1, L1, k1, n1⟩, -, X1, ⟨Lc1, hQ1, l1, y1, z1⟩, st1⟩ := X0.virtualBackUp hx (owner := "java/lang/Enum") (x := mn1) (y := mn0) hown (mvT hZ (ow13 hw)) (mvT hZ (ow14 hw)) (mvT hZ (ow15 hw)) (by decide) (mvT hZ (ow17 hw)) (mvT hZ (ow16 hw)) (backOf (W := 0) (rm3 l Z a0 hw [] y0 (0 : Int32) h0 n0 Z0 F_o) hZ (ow19 hw) (ow18 hw) (by decide) (by decide)) q1a q1c (g := (mkF m 1 #[.val (.ref y0), .val (.double y1), .second, .val (.double y2), .second, .unset] [(.ref y0)])) rfl (by rw [hml]; rfl) (Steps.refl _) (argsL := []) (rest := []) (lenOf pd0 rfl) rfl (by show 2 * 0 + _ ≤ _; exact Nat.le_of_eq rfl) (hb hby d2_1) (fun _ _ => ⟨rfl, e0, (by decide : 0 + 0 ≤ _), (by decide : 0 + 0 ≤ _)⟩)
  dsimp only [Pt.U, Pt.locs, Pt.cells, Pt.slots] at X1 l1 y1 z1 st1 hQ1
  subst l1 y1 z1
  obtain ⟨rfl, N1q, hh1⟩ := hQ1
  have N1 := Fr.app N0 N1q
  refine own_go (T' := T1) (f' := (mkF m 50 #[.val (.ref y0), .val (.double y1), .second, .val (.double y2), .second, .unset] [])) (fun _ k => st1.trans (XS.tswIn X1.here hx rfl (o := 36) (pc0 := 4) (pc' := 40) rfl (hb hby d2_4) rfl (by decide) rfl (by decide) (by decide) (own_dloadN X1.here hx rfl (hb hby d2_40) rfl (own_dloadN X1.here hx rfl (hb hby d2_41) rfl (own_dcmp (o := .gt) X1.here hx rfl (hb hby d2_42) rfl hcmp (XS.ifYes X1.here hx rfl (pc0 := 43) (pc' := 50) rfl (hb hby d2_43) rfl ((if0 _ _).trans (feq (by decide : ¬ ((1 : Int32) = (0 : Int32)))).2) (by decide) (by decide) k)))))) ?_
  refine own_go (T' := T1) (f' := (mkF m 135 #[.val (.ref y0), .val (.double y1), .second, .val (.double y2), .second, .val (.int (0 : Int32))] [(.int (0 : Int32))])) (fun _ k => XS.iconst X1.here hx rfl (hb hby d2_50) (XS.istore X1.here hx rfl (hb hby d2_51) rfl (l' := #[.val (.ref y0), .val (.double y1), .second, .val (.double y2), .second, .val (.int (0 : Int32))]) rfl (XS.goto X1.here hx rfl (pc0 := 53) (pc' := 133) rfl (hb hby d2_53) (by decide) (by decide) (XS.iload X1.here hx rfl (hb hby d2_133) rfl k)))) ?_
  refine own_ret X1 (v := some (.int (0 : Int32))) (fun h => by rw [Bd.returns] at h; cases h) Bd.notSynchronized (fun fs hr => retN X1 hx (t := .boolean) Bd.returns (by simp) (hb hby d2_135) hr) ?_ (by decide) (by decide)
  show Q2_0gt Z y0 y1 y2 h0 n0 _ T1.heap _
  exact ⟨rfl, N1, hh1⟩
theorem d2_56 : decode prog_17_method_6_code 56 = .ok (.dload_n 1, 1) := by decide +kernel
theorem d2_57 : decode prog_17_method_6_code 57 = .ok (.dload_n 3, 1) := by decide +kernel
theorem d2_58 : decode prog_17_method_6_code 58 = .ok (.dcmp .l, 1) := by decide +kernel
theorem d2_59 : decode prog_17_method_6_code 59 = .ok (.ifCond .eq 7, 3) := by decide +kernel
theorem d2_62 : decode prog_17_method_6_code 62 = .ok (.iconst 1, 1) := by decide +kernel
theorem d2_63 : decode prog_17_method_6_code 63 = .ok (.goto 4, 3) := by decide +kernel
theorem d2_67 : decode prog_17_method_6_code 67 = .ok (.istore 5, 2) := by decide +kernel
theorem d2_69 : decode prog_17_method_6_code 69 = .ok (.goto 64, 3) := by decide +kernel
theorem ef_rm2_1lt (m : MethodId) (y0 : Addr) (y1 : UInt64) (y2 : UInt64) : entryFrame m #[(.ref y0), (.double y1), (.double y2)] 6 = mkF m 0 #[.val (.ref y0), .val (.double y1), .second, .val (.double y2), .second, .unset] [] := by first | (simp [entryFrame, mkF, argsToLocals, Value.category]; done) | rfl
def Q2_1lt (Z : State) (y0 : Addr) (y1 : UInt64) (y2 : UInt64) (h0 : Heap) (n0 : Nat) (v : Option Value) (h : Heap) (L : List Loc) : Prop := v = some (.int (1 : Int32)) ∧ Fr n0 L ∧ h = h0
set_option maxRecDepth 65536 in
set_option maxHeartbeats 40000000 in
theorem rm2_1lt (l : Launch) (Z : State) (a0 : Array Value) (hw : ∀ d ∈ tables_1, d.before a0 Z = true) (ws : List Jvm.Cond) (y0 : Addr) (y1 : UInt64) (y2 : UInt64) (h0 : Heap) (n0 : Nat) (Z0 : n0 ≤ h0.size) (F_o : Fld Z h0 y0 "java/lang/Enum" "ordinal" "I" (.int (1 : Int32))) (E_y0 : Exa Z h0 y0 "com/example/reckonmill/reckonmill/lib/model/tree/Comparison") (hcmp : FP.dcmp y1 y2 = some .lt) :
    MetFree l mn2 (head1 (Jvm.Cond.code mn2 prog_17_method_6_code 6 (some .boolean) :: ws) ({ frames := 1, cells := 0, slots := 0, locals := 12 } : Room)) (fun a U => a = #[(.ref y0), (.double y1), (.double y2)] ∧ Z.Warmed39 U.vm ∧ U.heap = h0) (fun _ _ _ _ _ => True) (fun _ U o U' => ∃ v L, o = .returned v ∧ Q2_1lt Z y0 y1 y2 h0 n0 v U'.heap L ∧ FrameEnd U o U' L ({ frames := 1, cells := 0, slots := 0, locals := 12 } : Room).cells ({ frames := 1, cells := 0, slots := 0, locals := 12 } : Room).slots) := by
  refine MetFree.of_bodySF (plainFor_of_name pn_0) hisR ?_
  intro p e s m args below meth c s₁ Bd hml0 hP hK
  obtain ⟨rfl, hZ, hh⟩ := hP
  have hx := Bd.exec
  have hby := Bd.bytes
  have hml : c.maxLocals = 6 := hml0
  have hown : s.vm.findClass "com/example/reckonmill/reckonmill/lib/model/tree/Comparison" = some m.cls := findClass_of_methodNamed Bd.named
  have hnm := (name_of_methodNamed Bd.named Bd.method).1
  have X0 : Stand p l e ({ frames := 1, cells := 0, slots := 0, locals := 12 } : Room) s m #[(.ref y0), (.double y1), (.double y2)] below meth c s₁ [] 0 0 := Stand.of_body Bd
  have e0 : s₁.heap = h0 := by rw [← hh, Bd.state]; rfl
  have N0 := Fr.nil n0
  show own_Ends p e below s (Q2_1lt Z y0 y1 y2 h0 n0) _ _ s₁ _
  rw [ef_rm2_1lt m y0 y1 y2]
  refine own_go (T' := s₁) (f' := (mkF m 1 #[.val (.ref y0), .val (.double y1), .second, .val (.double y2), .second, .unset] [(.ref y0)])) (fun _ k => XS.aloadN X0.here hx rfl (hb hby d2_0) rfl rfl k) ?_
  obtain ⟨cq1, kq1, q1a, q1b, q1c⟩ := isOf hZ e0 E_y0
  obtain ⟨_, _, ⟨T1, L1, k1, n1⟩, -, X1, ⟨Lc1, hQ1, l1, y1, z1⟩, st1⟩ := X0.virtualBackUp hx (owner := "java/lang/Enum") (x := mn1) (y := mn0) hown (mvT hZ (ow13 hw)) (mvT hZ (ow14 hw)) (mvT hZ (ow15 hw)) (by decide) (mvT hZ (ow17 hw)) (mvT hZ (ow16 hw)) (backOf (W := 0) (rm3 l Z a0 hw [] y0 (1 : Int32) h0 n0 Z0 F_o) hZ (ow19 hw) (ow18 hw) (by decide) (by decide)) q1a q1c (g := (mkF m 1 #[.val (.ref y0), .val (.double y1), .second, .val (.double y2), .second, .unset] [(.ref y0)])) rfl (by rw [hml]; rfl) (Steps.refl _) (argsL := []) (rest := []) (lenOf pd0 rfl) rfl (by show 2 * 0 + _ ≤ _; exact Nat.le_of_eq rfl) (hb hby d2_1) (fun _ _ => ⟨rfl, e0, (by decide : 0 + 0 ≤ _), (by decide : 0 + 0 ≤ _)⟩)
  dsimp only [Pt.U, Pt.locs, Pt.cells, Pt.slots] at X1 l1 y1 z1 st1 hQ1
  subst l1 y1 z1
  obtain ⟨rfl, N1q, hh1⟩ := hQ1
  have N1 := Fr.app N0 N1q
  refine own_go (T' := T1) (f' := (mkF m 62 #[.val (.ref y0), .val (.double y1), .second, .val (.double y2), .second, .unset] [])) (fun _ k => st1.trans (XS.tswIn X1.here hx rfl (o := 52) (pc0 := 4) (pc' := 56) rfl (hb hby d2_4) rfl (by decide) rfl (by decide) (by decide) (own_dloadN X1.here hx rfl (hb hby d2_56) rfl (own_dloadN X1.here hx rfl (hb hby d2_57) rfl (own_dcmp (o := .lt) X1.here hx rfl (hb hby d2_58) rfl hcmp (XS.ifNo X1.here hx rfl (hb hby d2_59) rfl ((if0 _ _).trans (feq (by decide : ¬ ((-1 : Int32) = (0 : Int32)))).1) k)))))) ?_
  refine own_go (T' := T1) (f' := (mkF m 135 #[.val (.ref y0), .val (.double y1), .second, .val (.double y2), .second, .val (.int (1 : Int32))] [(.int (1 : Int32))])) (fun _ k => XS.iconst X1.here hx rfl (hb hby d2_62) (XS.goto X1.here hx rfl (pc0 := 63) (pc' := 67) rfl (hb hby d2_63) (by decide) (by decide) (XS.istore X1.here hx rfl (hb hby d2_67) rfl (l' := #[.val (.ref y0), .val (.double y1), .second, .val (.double y2), .second, .val (.int (1 : Int32))]) rfl (XS.goto X1.here hx rfl (pc0 := 69) (pc' := 133) rfl (hb hby d2_69) (by decide) (by decide) (XS.iload X1.here hx rfl (hb hby d2_133) rfl k))))) ?_
  refine own_ret X1 (v := some (.int (1 : Int32))) (fun h => by rw [Bd.returns] at h; cases h) Bd.notSynchronized (fun fs hr => retN X1 hx (t := .boolean) Bd.returns (by simp) (hb hby d2_135) hr) ?_ (by decide) (by decide)
  show Q2_1lt Z y0 y1 y2 h0 n0 _ T1.heap _
  exact ⟨rfl, N1, hh1⟩
theorem d2_66 : decode prog_17_method_6_code 66 = .ok (.iconst 0, 1) := by decide +kernel
theorem ef_rm2_1eq (m : MethodId) (y0 : Addr) (y1 : UInt64) (y2 : UInt64) : entryFrame m #[(.ref y0), (.double y1), (.double y2)] 6 = mkF m 0 #[.val (.ref y0), .val (.double y1), .second, .val (.double y2), .second, .unset] [] := by first | (simp [entryFrame, mkF, argsToLocals, Value.category]; done) | rfl
def Q2_1eq (Z : State) (y0 : Addr) (y1 : UInt64) (y2 : UInt64) (h0 : Heap) (n0 : Nat) (v : Option Value) (h : Heap) (L : List Loc) : Prop := v = some (.int (0 : Int32)) ∧ Fr n0 L ∧ h = h0
set_option maxRecDepth 65536 in
set_option maxHeartbeats 40000000 in
theorem rm2_1eq (l : Launch) (Z : State) (a0 : Array Value) (hw : ∀ d ∈ tables_1, d.before a0 Z = true) (ws : List Jvm.Cond) (y0 : Addr) (y1 : UInt64) (y2 : UInt64) (h0 : Heap) (n0 : Nat) (Z0 : n0 ≤ h0.size) (F_o : Fld Z h0 y0 "java/lang/Enum" "ordinal" "I" (.int (1 : Int32))) (E_y0 : Exa Z h0 y0 "com/example/reckonmill/reckonmill/lib/model/tree/Comparison") (hcmp : FP.dcmp y1 y2 = some .eq) :
    MetFree l mn2 (head1 (Jvm.Cond.code mn2 prog_17_method_6_code 6 (some .boolean) :: ws) ({ frames := 1, cells := 0, slots := 0, locals := 12 } : Room)) (fun a U => a = #[(.ref y0), (.double y1), (.double y2)] ∧ Z.Warmed39 U.vm ∧ U.heap = h0) (fun _ _ _ _ _ => True) (fun _ U o U' => ∃ v L, o = .returned v ∧ Q2_1eq Z y0 y1 y2 h0 n0 v U'.heap L ∧ FrameEnd U o U' L ({ frames := 1, cells := 0, slots := 0, locals := 12 } : Room).cells ({ frames := 1, cells := 0, slots := 0, locals := 12 } : Room).slots) := by
  refine MetFree.of_bodySF (plainFor_of_name pn_0) hisR ?_
  intro p e s m args below meth c s₁ Bd hml0 hP hK
  obtain ⟨rfl, hZ, hh⟩ := hP
  have hx := Bd.exec
  have hby := Bd.bytes
  have hml : c.maxLocals = 6 := hml0
  have hown : s.vm.findClass "com/example/reckonmill/reckonmill/lib/model/tree/Comparison" = some m.cls := findClass_of_methodNamed Bd.named
  have hnm := (name_of_methodNamed Bd.named Bd.method).1
  have X0 : Stand p l e ({ frames := 1, cells := 0, slots := 0, locals := 12 } : Room) s m #[(.ref y0), (.double y1), (.double y2)] below meth c s₁ [] 0 0 := Stand.of_body Bd
  have e0 : s₁.heap = h0 := by rw [← hh, Bd.state]; rfl
  have N0 := Fr.nil n0
  show own_Ends p e below s (Q2_1eq Z y0 y1 y2 h0 n0) _ _ s₁ _
  rw [ef_rm2_1eq m y0 y1 y2]
  refine own_go (T' := s₁) (f' := (mkF m 1 #[.val (.ref y0), .val (.double y1), .second, .val (.double y2), .second, .unset] [(.ref y0)])) (fun _ k => XS.aloadN X0.here hx rfl (hb hby d2_0) rfl rfl k) ?_
  obtain ⟨cq1, kq1, q1a, q1b, q1c⟩ := isOf hZ e0 E_y0
  obtain ⟨_, _, ⟨T1, L1, k1, n1⟩, -, X1, ⟨Lc1, hQ1, l1, y1, z1⟩, st1⟩ := X0.virtualBackUp hx (owner := "java/lang/Enum") (x := mn1) (y := mn0) hown (mvT hZ (ow13 hw)) (mvT hZ (ow14 hw)) (mvT hZ (ow15 hw)) (by decide) (mvT hZ (ow17 hw)) (mvT hZ (ow16 hw)) (backOf (W := 0) (rm3 l Z a0 hw [] y0 (1 : Int32) h0 n0 Z0 F_o) hZ (ow19 hw) (ow18 hw) (by decide) (by decide)) q1a q1c (g := (mkF m 1 #[.val (.ref y0), .val (.double y1), .second, .val (.double y2), .second, .unset] [(.ref y0)])) rfl (by rw [hml]; rfl) (Steps.refl _) (argsL := []) (rest := []) (lenOf pd0 rfl) rfl (by show 2 * 0 + _ ≤ _; exact Nat.le_of_eq rfl) (hb hby d2_1) (fun _ _ => ⟨rfl, e0, (by decide : 0 + 0 ≤ _), (by decide : 0 + 0 ≤ _)⟩)
  dsimp only [Pt.U, Pt.locs, Pt.cells, Pt.slots] at X1 l1 y1 z1 st1 hQ1
  subst l1 y1 z1
  obtain ⟨rfl, N1q, hh1⟩ := hQ1
  have N1 := Fr.app N0 N1q
  refine own_go (T' := T1) (f' := (mkF m 66 #[.val (.ref y0), .val (.double y1), .second, .val (.double y2), .second, .unset] [])) (fun _ k => st1.trans (XS.tswIn X1.here hx rfl (o := 52) (pc0 := 4) (pc' := 56) rfl (hb hby d2_4) rfl (by decide) rfl (by decide) (by decide) (own_dloadN X1.here hx rfl (hb hby d2_56) rfl (own_dloadN X1.here hx rfl (hb hby d2_57) rfl (own_dcmp (o := .eq) X1.here hx rfl (hb hby d2_58) rfl hcmp (XS.ifYes X1.here hx rfl (pc0 := 59) (pc' := 66) rfl (hb hby d2_59) rfl ((if0 _ _).trans (teq (by decide : ((0 : Int32) = (0 : Int32)))).1) (by decide) (by decide) k)))))) ?_
  refine own_go (T' := T1) (f' := (mkF m 135 #[.val (.ref y0), .val (.double y1), .second, .val (.double y2), .second, .val (.int (0 : Int32))] [(.int (0 : Int32))])) (fun _ k => XS.iconst X1.here hx rfl (hb hby d2_66) (XS.istore X1.here hx rfl (hb hby d2_67) rfl (l' := #[.val (.ref y0), .val (.double y1), .second, .val (.double y2), .second, .val (.int (0 : Int32))]) rfl (XS.goto X1.here hx rfl (pc0 := 69) (pc' := 133) rfl (hb hby d2_69) (by decide) (by decide) (XS.iload X1.here hx rfl (hb hby d2_133) rfl k)))) ?_
  refine own_ret X1 (v := some (.int (0 : Int32))) (fun h => by rw [Bd.returns] at h; cases h) Bd.notSynchronized (fun fs hr => retN X1 hx (t := .boolean) Bd.returns (by simp) (hb hby d2_135) hr) ?_ (by decide) (by decide)
  show Q2_1eq Z y0 y1 y2 h0 n0 _ T1.heap _
  exact ⟨rfl, N1, hh1⟩
theorem ef_rm2_1gt (m : MethodId) (y0 : Addr) (y1 : UInt64) (y2 : UInt64) : entryFrame m #[(.ref y0), (.double y1), (.double y2)] 6 = mkF m 0 #[.val (.ref y0), .val (.double y1), .second, .val (.double y2), .second, .unset] [] := by first | (simp [entryFrame, mkF, argsToLocals, Value.category]; done) | rfl
def Q2_1gt (Z : State) (y0 : Addr) (y1 : UInt64) (y2 : UInt64) (h0 : Heap) (n0 : Nat) (v : Option Value) (h : Heap) (L : List Loc) : Prop := v = some (.int (1 : Int32)) ∧ Fr n0 L ∧ h = h0
set_option maxRecDepth 65536 in
set_option maxHeartbeats 40000000 in
theorem rm2_1gt (l : Launch) (Z : State) (a0 : Array Value) (hw : ∀ d ∈ tables_1, d.before a0 Z = true) (ws : List Jvm.Cond) (y0 : Addr) (y1 : UInt64) (y2 : UInt64) (h0 : Heap) (n0 : Nat) (Z0 : n0 ≤ h0.size) (F_o : Fld Z h0 y0 "java/lang/Enum" "ordinal" "I" (.int (1 : Int32))) (E_y0 : Exa Z h0 y0 "com/example/reckonmill/reckonmill/lib/model/tree/Comparison") (hcmp : FP.dcmp y1 y2 = some .gt) :
    MetFree l mn2 (head1 (Jvm.Cond.code mn2 prog_17_method_6_code 6 (some .boolean) :: ws) ({ frames := 1, cells := 0, slots := 0, locals := 12 } : Room)) (fun a U => a = #[(.ref y0), (.double y1), (.double y2)] ∧ Z.Warmed39 U.vm ∧ U.heap = h0) (fun _ _ _ _ _ => True) (fun _ U o U' => ∃ v L, o = .returned v ∧ Q2_1gt Z y0 y1 y2 h0 n0 v U'.heap L ∧ FrameEnd U o U' L ({ frames := 1, cells := 0, slots := 0, locals := 12 } : Room).cells ({ frames := 1, cells := 0, slots := 0, locals := 12 } : Room).slots) := by
  refine MetFree.of_bodySF (plainFor_of_name pn_0) hisR ?_
  intro p e s m args below meth c s₁ Bd hml0 hP hK
  obtain ⟨rfl, hZ, hh⟩ := hP
  have hx := Bd.exec
  have hby := Bd.bytes
  have hml : c.maxLocals = 6 := hml0
  have hown : s.vm.findClass "com/example/reckonmill/reckonmill/lib/model/tree/Comparison" = some m.cls := findClass_of_methodNamed Bd.named
  have hnm := (name_of_methodNamed Bd.named Bd.method).1
  have X0 : Stand p l e ({ frames := 1, cells := 0, slots := 0, locals := 12 } : Room) s m #[(.ref y0), (.double y1), (.double y2)] below meth c s₁ [] 0 0 := Stand.of_body Bd
  have e0 : s₁.heap = h0 := by rw [← hh, Bd.state]; rfl
  have N0 := Fr.nil n0
  show own_Ends p e below s (Q2_1gt Z y0 y1 y2 h0 n0) _ _ s₁ _
  rw [ef_rm2_1gt m y0 y1 y2]
  refine own_go (T' := s₁) (f' := (mkF m 1 #[.val (.ref y0), .val (.double y1), .second, .val (.double y2), .second, .unset] [(.ref y0)])) (fun _ k => XS.aloadN X0.here hx rfl (hb hby d2_0) rfl rfl k) ?_
  obtain ⟨cq1, kq1, q1a, q1b, q1c⟩ := isOf hZ e0 E_y0
  obtain ⟨_, _, ⟨T1, L1, k1, n1⟩, -, X1, ⟨Lc1, hQ1, l1, y1, z1⟩, st1⟩ := X0.virtualBackUp hx (owner := "java/lang/Enum") (x := mn1) (y := mn0) hown (mvT hZ (ow13 hw)) (mvT hZ (ow14 hw)) (mvT hZ (ow15 hw)) (by decide) (mvT hZ (ow17 hw)) (mvT hZ (ow16 hw)) (backOf (W := 0) (rm3 l Z a0 hw [] y0 (1 : Int32) h0 n0 Z0 F_o) hZ (ow19 hw) (ow18 hw) (by decide) (by decide)) q1a q1c (g := (mkF m 1 #[.val (.ref y0), .val (.double y1), .second, .val (.double y2), .second, .unset] [(.ref y0)])) rfl (by rw [hml]; rfl) (Steps.refl _) (argsL := []) (rest := []) (lenOf pd0 rfl) rfl (by show 2 * 0 + _ ≤ _; exact Nat.le_of_eq rfl) (hb hby d2_1) (fun _ _ => ⟨rfl, e0, (by decide : 0 + 0 ≤ _), (by decide : 0 + 0 ≤ _)⟩)
  dsimp only [Pt.U, Pt.locs, Pt.cells, Pt.slots] at X1 l1 y1 z1 st1 hQ1
  subst l1 y1 z1
  obtain ⟨rfl, N1q, hh1⟩ := hQ1
  have N1 := Fr.app N0 N1q
  refine own_go (T' := T1) (f' := (mkF m 62 #[.val (.ref y0), .val (.double y1), .second, .val (.double y2), .second, .unset] [])) (fun _ k => st1.trans (XS.tswIn X1.here hx rfl (o := 52) (pc0 := 4) (pc' := 56) rfl (hb hby d2_4) rfl (by decide) rfl (by decide) (by decide) (own_dloadN X1.here hx rfl (hb hby d2_56) rfl (own_dloadN X1.here hx rfl (hb hby d2_57) rfl (own_dcmp (o := .gt) X1.here hx rfl (hb hby d2_58) rfl hcmp (XS.ifNo X1.here hx rfl (hb hby d2_59) rfl ((if0 _ _).trans (feq (by decide : ¬ ((1 : Int32) = (0 : Int32)))).1) k)))))) ?_
  refine own_go (T' := T1) (f' := (mkF m 135 #[.val (.ref y0), .val (.double y1), .second, .val (.double y2), .second, .val (.int (1 : Int32))] [(.int (1 : Int32))])) (fun _ k => XS.iconst X1.here hx rfl (hb hby d2_62) (XS.goto X1.here hx rfl (pc0 := 63) (pc' := 67) rfl (hb hby d2_63) (by decide) (by decide) (XS.istore X1.here hx rfl (hb hby d2_67) rfl (l' := #[.val (.ref y0), .val (.double y1), .second, .val (.double y2), .second, .val (.int (1 : Int32))]) rfl (XS.goto X1.here hx rfl (pc0 := 69) (pc' := 133) rfl (hb hby d2_69) (by decide) (by decide) (XS.iload X1.here hx rfl (hb hby d2_133) rfl k))))) ?_
  refine own_ret X1 (v := some (.int (1 : Int32))) (fun h => by rw [Bd.returns] at h; cases h) Bd.notSynchronized (fun fs hr => retN X1 hx (t := .boolean) Bd.returns (by simp) (hb hby d2_135) hr) ?_ (by decide) (by decide)
  show Q2_1gt Z y0 y1 y2 h0 n0 _ T1.heap _
  exact ⟨rfl, N1, hh1⟩
theorem d2_72 : decode prog_17_method_6_code 72 = .ok (.dload_n 1, 1) := by decide +kernel
theorem d2_73 : decode prog_17_method_6_code 73 = .ok (.dload_n 3, 1) := by decide +kernel
theorem d2_74 : decode prog_17_method_6_code 74 = .ok (.dcmp .g, 1) := by decide +kernel
theorem d2_75 : decode prog_17_method_6_code 75 = .ok (.ifCond .ge 7, 3) := by decide +kernel
theorem d2_78 : decode prog_17_method_6_code 78 = .ok (.iconst 1, 1) := by decide +kernel
theorem d2_79 : decode prog_17_method_6_code 79 = .ok (.goto 4, 3) := by decide +kernel
theorem d2_83 : decode prog_17_method_6_code 83 = .ok (.istore 5, 2) := by decide +kernel
theorem d2_85 : decode prog_17_method_6_code 85 = .ok (.goto 48, 3) := by decide +kernel
theorem ef_rm2_2lt (m : MethodId) (y0 : Addr) (y1 : UInt64) (y2 : UInt64) : entryFrame m #[(.ref y0), (.double y1), (.double y2)] 6 = mkF m 0 #[.val (.ref y0), .val (.double y1), .second, .val (.double y2), .second, .unset] [] := by first | (simp [entryFrame, mkF, argsToLocals, Value.category]; done) | rfl
def Q2_2lt (Z : State) (y0 : Addr) (y1 : UInt64) (y2 : UInt64) (h0 : Heap) (n0 : Nat) (v : Option Value) (h : Heap) (L : List Loc) : Prop := v = some (.int (1 : Int32)) ∧ Fr n0 L ∧ h = h0
set_option maxRecDepth 65536 in
set_option maxHeartbeats 40000000 in
theorem rm2_2lt (l : Launch) (Z : State) (a0 : Array Value) (hw : ∀ d ∈ tables_1, d.before a0 Z = true) (ws : List Jvm.Cond) (y0 : Addr) (y1 : UInt64) (y2 : UInt64) (h0 : Heap) (n0 : Nat) (Z0 : n0 ≤ h0.size) (F_o : Fld Z h0 y0 "java/lang/Enum" "ordinal" "I" (.int (2 : Int32))) (E_y0 : Exa Z h0 y0 "com/example/reckonmill/reckonmill/lib/model/tree/Comparison") (hcmp : FP.dcmp y1 y2 = some .lt) :
    MetFree l mn2 (head1 (Jvm.Cond.code mn2 prog_17_method_6_code 6 (some .boolean) :: ws) ({ frames := 1, cells := 0, slots := 0, locals := 12 } : Room)) (fun a U => a = #[(.ref y0), (.double y1), (.double y2)] ∧ Z.Warmed39 U.vm ∧ U.heap = h0) (fun _ _ _ _ _ => True) (fun _ U o U' => ∃ v L, o = .returned v ∧ Q2_2lt Z y0 y1 y2 h0 n0 v U'.heap L ∧ FrameEnd U o U' L ({ frames := 1, cells := 0, slots := 0, locals := 12 } : Room).cells ({ frames := 1, cells := 0, slots := 0, locals := 12 } : Room).slots) := by
  refine MetFree.of_bodySF (plainFor_of_name pn_0) hisR ?_
  intro p e s m args below meth c s₁ Bd hml0 hP hK
  obtain ⟨rfl, hZ, hh⟩ := hP
  have hx := Bd.exec
  have hby := Bd.bytes
  have hml : c.maxLocals = 6 := hml0
  have hown : s.vm.findClass "com/example/reckonmill/reckonmill/lib/model/tree/Comparison" = some m.cls := findClass_of_methodNamed Bd.named
  have hnm := (name_of_methodNamed Bd.named Bd.method).1
  have X0 : Stand p l e ({ frames := 1, cells := 0, slots := 0, locals := 12 } : Room) s m #[(.ref y0), (.double y1), (.double y2)] below meth c s₁ [] 0 0 := Stand.of_body Bd
  have e0 : s₁.heap = h0 := by rw [← hh, Bd.state]; rfl
  have N0 := Fr.nil n0
  show own_Ends p e below s (Q2_2lt Z y0 y1 y2 h0 n0) _ _ s₁ _
  rw [ef_rm2_2lt m y0 y1 y2]
  refine own_go (T' := s₁) (f' := (mkF m 1 #[.val (.ref y0), .val (.double y1), .second, .val (.double y2), .second, .unset] [(.ref y0)])) (fun _ k => XS.aloadN X0.here hx rfl (hb hby d2_0) rfl rfl k) ?_
  obtain ⟨cq1, kq1, q1a, q1b, q1c⟩ := isOf hZ e0 E_y0
  obtain ⟨_, _, ⟨T1, L1, k1, n1⟩, -, X1, ⟨Lc1, hQ1, l1, y1, z1⟩, st1⟩ := X0.virtualBackUp hx (owner := "java/lang/Enum") (x := mn1) (y := mn0) hown (mvT hZ (ow13 hw)) (mvT hZ (ow14 hw)) (mvT hZ (ow15 hw)) (by decide) (mvT hZ (ow17 hw)) (mvT hZ (ow16 hw)) (backOf (W := 0) (rm3 l Z a0 hw [] y0 (2 : Int32) h0 n0 Z0 F_o) hZ (ow19 hw) (ow18 hw) (by decide) (by decide)) q1a q1c (g := (mkF m 1 #[.val (.ref y0), .val (.double y1), .second, .val (.double y2), .second, .unset] [(.ref y0)])) rfl (by rw [hml]; rfl) (Steps.refl _) (argsL := []) (rest := []) (lenOf pd0 rfl) rfl (by show 2 * 0 + _ ≤ _; exact Nat.le_of_eq rfl) (hb hby d2_1) (fun _ _ => ⟨rfl, e0, (by decide : 0 + 0 ≤ _), (by decide : 0 + 0 ≤ _)⟩)
  dsimp only [Pt.U, Pt.locs, Pt.cells, Pt.slots] at X1 l1 y1 z1 st1 hQ1
  subst l1 y1 z1
  obtain ⟨rfl, N1q, hh1⟩ := hQ1
  have N1 := Fr.app N0 N1q
  refine own_go (T' := T1) (f' := (mkF m 78 #[.val (.ref y0), .val (.double y1), .second, .val (.double y2), .second, .unset] [])) (fun _ k => st1.trans (XS.tswIn X1.here hx rfl (o := 68) (pc0 := 4) (pc' := 72) rfl (hb hby d2_4) rfl (by decide) rfl (by decide) (by decide) (own_dloadN X1.here hx rfl (hb hby d2_72) rfl (own_dloadN X1.here hx rfl (hb hby d2_73) rfl (own_dcmp (o := .lt) X1.here hx rfl (hb hby d2_74) rfl hcmp (XS.ifNo X1.here hx rfl (hb hby d2_75) rfl ((if0 _ _).trans (tlt (by decide : ((-1 : Int32) < (0 : Int32)))).2.1) k)))))) ?_
  refine own_go (T' := T1) (f' := (mkF m 135 #[.val (.ref y0), .val (.double y1), .second, .val (.double y2), .second, .val (.int (1 : Int32))] [(.int (1 : Int32))])) (fun _ k => XS.iconst X1.here hx rfl (hb hby d2_78) (XS.goto X1.here hx rfl (pc0 := 79) (pc' := 83) rfl (hb hby d2_79) (by decide) (by decide) (XS.istore X1.here hx rfl (hb hby d2_83) rfl (l' := #[.val (.ref y0), .val (.double y1), .second, .val (.double y2), .second, .val (.int (1 : Int32))]) rfl (XS.goto X1.here hx rfl (pc0 := 85) (pc' := 133) rfl (hb hby d2_85) (by decide) (by decide) (XS.iload X1.here hx rfl (hb hby d2_133) rfl k))))) ?_
  refine own_ret X1 (v := some (.int (1 : Int32))) (fun h => by rw [Bd.returns] at h; cases h) Bd.notSynchronized (fun fs hr => retN X1 hx (t := .boolean) Bd.returns (by simp) (hb hby d2_135) hr) ?_ (by decide) (by decide)
  show Q2_2lt Z y0 y1 y2 h0 n0 _ T1.heap _
  exact ⟨rfl, N1, hh1⟩
theorem d2_82 : decode prog_17_method_6_code 82 = .ok (.iconst 0, 1) := by decide +kernel
theorem ef_rm2_2eq (m : MethodId) (y0 : Addr) (y1 : UInt64) (y2 : UInt64) : entryFrame m #[(.ref y0), (.double y1), (.double y2)] 6 = mkF m 0 #[.val (.ref y0), .val (.double y1), .second, .val (.double y2), .second, .unset] [] := by first | (simp [entryFrame, mkF, argsToLocals, Value.category]; done) | rfl
def Q2_2eq (Z : State) (y0 : Addr) (y1 : UInt64) (y2 : UInt64) (h0 : Heap) (n0 : Nat) (v : Option Value) (h : Heap) (L : List Loc) : Prop := v = some (.int (0 : Int32)) ∧ Fr n0 L ∧ h = h0
set_option maxRecDepth 65536 in
set_option maxHeartbeats 40000000 in
theorem rm2_2eq (l : Launch) (Z : State) (a0 : Array Value) (hw : ∀ d ∈ tables_1, d.before a0 Z = true) (ws : List Jvm.Cond) (y0 : Addr) (y1 : UInt64) (y2 : UInt64) (h0 : Heap) (n0 : Nat) (Z0 : n0 ≤ h0.size) (F_o : Fld Z h0 y0 "java/lang/Enum" "ordinal" "I" (.int (2 : Int32))) (E_y0 : Exa Z h0 y0 "com/example/reckonmill/reckonmill/lib/model/tree/Comparison") (hcmp : FP.dcmp y1 y2 = some .eq) :
    MetFree l mn2 (head1 (Jvm.Cond.code mn2 prog_17_method_6_code 6 (some .boolean) :: ws) ({ frames := 1, cells := 0, slots := 0, locals := 12 } : Room)) (fun a U => a = #[(.ref y0), (.double y1), (.double y2)] ∧ Z.Warmed39 U.vm ∧ U.heap = h0) (fun _ _ _ _ _ => True) (fun _ U o U' => ∃ v L, o = .returned v ∧ Q2_2eq Z y0 y1 y2 h0 n0 v U'.heap L ∧ FrameEnd U o U' L ({ frames := 1, cells := 0, slots := 0, locals := 12 } : Room).cells ({ frames := 1, cells := 0, slots := 0, locals := 12 } : Room).slots) := by
  refine MetFree.of_bodySF (plainFor_of_name pn_0) hisR ?_
  intro p e s m args below meth c s₁ Bd hml0 hP hK
  obtain ⟨rfl, hZ, hh⟩ := hP
  have hx := Bd.exec
  have hby := Bd.bytes
  have hml : c.maxLocals = 6 := hml0
  have hown : s.vm.findClass "com/example/reckonmill/reckonmill/lib/model/tree/Comparison" = some m.cls := findClass_of_methodNamed Bd.named
  have hnm := (name_of_methodNamed Bd.named Bd.method).1
  have X0 : Stand p l e ({ frames := 1, cells := 0, slots := 0, locals := 12 } : Room) s m #[(.ref y0), (.double y1), (.double y2)] below meth c s₁ [] 0 0 := Stand.of_body Bd
  have e0 : s₁.heap = h0 := by rw [← hh, Bd.state]; rfl
  have N0 := Fr.nil n0
  show own_Ends p e below s (Q2_2eq Z y0 y1 y2 h0 n0) _ _ s₁ _
  rw [ef_rm2_2eq m y0 y1 y2]
  refine own_go (T' := s₁) (f' := (mkF m 1 #[.val (.ref y0), .val (.double y1), .second, .val (.double y2), .second, .unset] [(.ref y0)])) (fun _ k => XS.aloadN X0.here hx rfl (hb hby d2_0) rfl rfl k) ?_
  obtain ⟨cq1, kq1, q1a, q1b, q1c⟩ := isOf hZ e0 E_y0
  obtain ⟨_, _, ⟨T1, L1, k1, n1⟩, -, X1, ⟨Lc1, hQ1, l1, y1, z1⟩, st1⟩ := X0.virtualBackUp hx (owner := "java/lang/Enum") (x := mn1) (y := mn0) hown (mvT hZ (ow13 hw)) (mvT hZ (ow14 hw)) (mvT hZ (ow15 hw)) (by decide) (mvT hZ (ow17 hw)) (mvT hZ (ow16 hw)) (backOf (W := 0) (rm3 l Z a0 hw [] y0 (2 : Int32) h0 n0 Z0 F_o) hZ (ow19 hw) (ow18 hw) (by decide) (by decide)) q1a q1c (g := (mkF m 1 #[.val (.ref y0), .val (.double y1), .second, .val (.double y2), .second, .unset] [(.ref y0)])) rfl (by rw [hml]; rfl) (Steps.refl _) (argsL := []) (rest := []) (lenOf pd0 rfl) rfl (by show 2 * 0 + _ ≤ _; exact Nat.le_of_eq rfl) (hb hby d2_1) (fun _ _ => ⟨rfl, e0, (by decide : 0 + 0 ≤ _), (by decide : 0 + 0 ≤ _)⟩)
  dsimp only [Pt.U, Pt.locs, Pt.cells, Pt.slots] at X1 l1 y1 z1 st1 hQ1
  subst l1 y1 z1
  obtain ⟨rfl, N1q, hh1⟩ := hQ1
  have N1 := Fr.app N0 N1q
  refine own_go (T' := T1) (f' := (mkF m 82 #[.val (.ref y0), .val (.double y1), .second, .val (.double y2), .second, .unset] [])) (fun _ k => st1.trans (XS.tswIn X1.here hx rfl (o := 68) (pc0 := 4) (pc' := 72) rfl (hb hby d2_4) rfl (by decide) rfl (by decide) (by decide) (own_dloadN X1.here hx rfl (hb hby d2_72) rfl (own_dloadN X1.here hx rfl (hb hby d2_73) rfl (own_dcmp (o := .eq) X1.here hx rfl (hb hby d2_74) rfl hcmp (XS.ifYes X1.here hx rfl (pc0 := 75) (pc' := 82) rfl (hb hby d2_75) rfl ((if0 _ _).trans (flt (by decide : ¬ ((0 : Int32) < (0 : Int32)))).2.1) (by decide) (by decide) k)))))) ?_
  refine own_go (T' := T1) (f' := (mkF m 135 #[.val (.ref y0), .val (.double y1), .second, .val (.double y2), .second, .val (.int (0 : Int32))] [(.int (0 : Int32))])) (fun _ k => XS.iconst X1.here hx rfl (hb hby d2_82) (XS.istore X1.here hx rfl (hb hby d2_83) rfl (l' := #[.val (.ref y0), .val (.double y1), .second, .val (.double y2), .second, .val (.int (0 : Int32))]) rfl (XS.goto X1.here hx rfl (pc0 := 85) (pc' := 133) rfl (hb hby d2_85) (by decide) (by decide) (XS.iload X1.here hx rfl (hb hby d2_133) rfl k)))) ?_
  refine own_ret X1 (v := some (.int (0 : Int32))) (fun h => by rw [Bd.returns] at h; cases h) Bd.notSynchronized (fun fs hr => retN X1 hx (t := .boolean) Bd.returns (by simp) (hb hby d2_135) hr) ?_ (by decide) (by decide)
  show Q2_2eq Z y0 y1 y2 h0 n0 _ T1.heap _
  exact ⟨rfl, N1, hh1⟩
theorem ef_rm2_2gt (m : MethodId) (y0 : Addr) (y1 : UInt64) (y2 : UInt64) : entryFrame m #[(.ref y0), (.double y1), (.double y2)] 6 = mkF m 0 #[.val (.ref y0), .val (.double y1), .second, .val (.double y2), .second, .unset] [] := by first | (simp [entryFrame, mkF, argsToLocals, Value.category]; done) | rfl
def Q2_2gt (Z : State) (y0 : Addr) (y1 : UInt64) (y2 : UInt64) (h0 : Heap) (n0 : Nat) (v : Option Value) (h : Heap) (L : List Loc) : Prop := v = some (.int (0 : Int32)) ∧ Fr n0 L ∧ h = h0
set_option maxRecDepth 65536 in
set_option maxHeartbeats 40000000 in
theorem rm2_2gt (l : Launch) (Z : State) (a0 : Array Value) (hw : ∀ d ∈ tables_1, d.before a0 Z = true) (ws : List Jvm.Cond) (y0 : Addr) (y1 : UInt64) (y2 : UInt64) (h0 : Heap) (n0 : Nat) (Z0 : n0 ≤ h0.size) (F_o : Fld Z h0 y0 "java/lang/Enum" "ordinal" "I" (.int (2 : Int32))) (E_y0 : Exa Z h0 y0 "com/example/reckonmill/reckonmill/lib/model/tree/Comparison") (hcmp : FP.dcmp y1 y2 = some .gt) :
    MetFree l mn2 (head1 (Jvm.Cond.code mn2 prog_17_method_6_code 6 (some .boolean) :: ws) ({ frames := 1, cells := 0, slots := 0, locals := 12 } : Room)) (fun a U => a = #[(.ref y0), (.double y1), (.double y2)] ∧ Z.Warmed39 U.vm ∧ U.heap = h0) (fun _ _ _ _ _ => True) (fun _ U o U' => ∃ v L, o = .returned v ∧ Q2_2gt Z y0 y1 y2 h0 n0 v U'.heap L ∧ FrameEnd U o U' L ({ frames := 1, cells := 0, slots := 0, locals := 12 } : Room).cells ({ frames := 1, cells := 0, slots := 0, locals := 12 } : Room).slots) := by
  refine MetFree.of_bodySF (plainFor_of_name pn_0) hisR ?_
  intro p e s m args below meth c s₁ Bd hml0 hP hK
  obtain ⟨rfl, hZ, hh⟩ := hP
  have hx := Bd.exec
  have hby := Bd.bytes
  have hml : c.maxLocals = 6 := hml0
  have hown : s.vm.findClass "com/example/reckonmill/reckonmill/lib/model/tree/Comparison" = some m.cls := findClass_of_methodNamed Bd.named
  have hnm := (name_of_methodNamed Bd.named Bd.method).1
  have X0 : Stand p l e ({ frames := 1, cells := 0, slots := 0, locals := 12 } : Room) s m #[(.ref y0), (.double y1), (.double y2)] below meth c s₁ [] 0 0 := Stand.of_body Bd
  have e0 : s₁.heap = h0 := by rw [← hh, Bd.state]; rfl
  have N0 := Fr.nil n0
  show own_Ends p e below s (Q2_2gt Z y0 y1 y2 h0 n0) _ _ s₁ _
  rw [ef_rm2_2gt m y0 y1 y2]
  refine own_go (T' := s₁) (f' := (mkF m 1 #[.val (.ref y0), .val (.double y1), .second, .val (.double y2), .second, .unset] [(.ref y0)])) (fun _ k => XS.aloadN X0.here hx rfl (hb hby d2_0) rfl rfl k) ?_
  obtain ⟨cq1, kq1, q1a, q1b, q1c⟩ := isOf hZ e0 E_y0
  obtain ⟨_, _, ⟨T1, L1, k1, n1⟩, -, X1, ⟨Lc1, hQ1, l1, y1, z1⟩, st1⟩ := X0.virtualBackUp hx (owner := "java/lang/Enum") (x := mn1) (y := mn0) hown (mvT hZ (ow13 hw)) (mvT hZ (ow14 hw)) (mvT hZ (ow15 hw)) (by decide) (mvT hZ (ow17 hw)) (mvT hZ (ow16 hw)) (backOf (W := 0) (rm3 l Z a0 hw [] y0 (2 : Int32) h0 n0 Z0 F_o) hZ (ow19 hw) (ow18 hw) (by decide) (by decide)) q1a q1c (g := (mkF m 1 #[.val (.ref y0), .val (.double y1), .second, .val (.double y2), .second, .unset] [(.ref y0)])) rfl (by rw [hml]; rfl) (Steps.refl _) (argsL := []) (rest := []) (lenOf pd0 rfl) rfl (by show 2 * 0 + _ ≤ _; exact Nat.le_of_eq rfl) (hb hby d2_1) (fun _ _ => ⟨rfl, e0, (by decide : 0 + 0 ≤ _), (by decide : 0 + 0 ≤ _)⟩)
  dsimp only [Pt.U, Pt.locs, Pt.cells, Pt.slots] at X1 l1 y1 z1 st1 hQ1
  subst l1 y1 z1
  obtain ⟨rfl, N1q, hh1⟩ := hQ1
  have N1 := Fr.app N0 N1q
  refine own_go (T' := T1) (f' := (mkF m 82 #[.val (.ref y0), .val (.double y1), .second, .val (.double y2), .second, .unset] [])) (fun _ k => st1.trans (XS.tswIn X1.here hx rfl (o := 68) (pc0 := 4) (pc' := 72) rfl (hb hby d2_4) rfl (by decide) rfl (by decide) (by decide) (own_dloadN X1.here hx rfl (hb hby d2_72) rfl (own_dloadN X1.here hx rfl (hb hby d2_73) rfl (own_dcmp (o := .gt) X1.here hx rfl (hb hby d2_74) rfl hcmp (XS.ifYes X1.here hx rfl (pc0 := 75) (pc' := 82) rfl (hb hby d2_75) rfl ((if0 _ _).trans (flt (by decide : ¬ ((1 : Int32) < (0 : Int32)))).2.1) (by decide) (by decide) k)))))) ?_
  refine own_go (T' := T1) (f' := (mkF m 135 #[.val (.ref y0), .val (.double y1), .second, .val (.double y2), .second, .val (.int (0 : Int32))] [(.int (0 : Int32))])) (fun _ k => XS.iconst X1.here hx rfl (hb hby d2_82) (XS.istore X1.here hx rfl (hb hby d2_83) rfl (l' := #[.val (.ref y0), .val (.double y1), .second, .val (.double y2), .second, .val (.int (0 : Int32))]) rfl (XS.goto X1.here hx rfl (pc0 := 85) (pc' := 133) rfl (hb hby d2_85) (by decide) (by decide) (XS.iload X1.here hx rfl (hb hby d2_133) rfl k)))) ?_
  refine own_ret X1 (v := some (.int (0 : Int32))) (fun h => by rw [Bd.returns] at h; cases h) Bd.notSynchronized (fun fs hr => retN X1 hx (t := .boolean) Bd.returns (by simp) (hb hby d2_135) hr) ?_ (by decide) (by decide)
  show Q2_2gt Z y0 y1 y2 h0 n0 _ T1.heap _
  exact ⟨rfl, N1, hh1⟩
theorem d2_88 : decode prog_17_method_6_code 88 = .ok (.dload_n 1, 1) := by decide +kernel
theorem d2_89 : decode prog_17_method_6_code 89 = .ok (.dload_n 3, 1) := by decide +kernel
theorem d2_90 : decode prog_17_method_6_code 90 = .ok (.dcmp .g, 1) := by decide +kernel
theorem d2_91 : decode prog_17_method_6_code 91 = .ok (.ifCond .gt 7, 3) := by decide +kernel
theorem d2_94 : decode prog_17_method_6_code 94 = .ok (.iconst 1, 1) := by decide +kernel
theorem d2_95 : decode prog_17_method_6_code 95 = .ok (.goto 4, 3) := by decide +kernel
theorem d2_99 : decode prog_17_method_6_code 99 = .ok (.istore 5, 2) := by decide +kernel
theorem d2_101 : decode prog_17_method_6_code 101 = .ok (.goto 32, 3) := by decide +kernel
theorem ef_rm2_3lt (m : MethodId) (y0 : Addr) (y1 : UInt64) (y2 : UInt64) : entryFrame m #[(.ref y0), (.double y1), (.double y2)] 6 = mkF m 0 #[.val (.ref y0), .val (.double y1), .second, .val (.double y2), .second, .unset] [] := by first | (simp [entryFrame, mkF, argsToLocals, Value.category]; done) | rfl
def Q2_3lt (Z : State) (y0 : Addr) (y1 : UInt64) (y2 : UInt64) (h0 : Heap) (n0 : Nat) (v : Option Value) (h : Heap) (L : List Loc) : Prop := v = some (.int (1 : Int32)) ∧ Fr n0 L ∧ h = h0
set_option maxRecDepth 65536 in
set_option maxHeartbeats 40000000 in
theorem rm2_3lt (l : Launch) (Z : State) (a0 : Array Value) (hw : ∀ d ∈ tables_1, d.before a0 Z = true) (ws : List Jvm.Cond) (y0 : Addr) (y1 : UInt64) (y2 : UInt64) (h0 : Heap) (n0 : Nat) (Z0 : n0 ≤ h0.size) (F_o : Fld Z h0 y0 "java/lang/Enum" "ordinal" "I" (.int (3 : Int32))) (E_y0 : Exa Z h0 y0 "com/example/reckonmill/reckonmill/lib/model/tree/Comparison") (hcmp : FP.dcmp y1 y2 = some .lt) :
    MetFree l mn2 (head1 (Jvm.Cond.code mn2 prog_17_method_6_code 6 (some .boolean) :: ws) ({ frames := 1, cells := 0, slots := 0, locals := 12 } : Room)) (fun a U => a = #[(.ref y0), (.double y1), (.double y2)] ∧ Z.Warmed39 U.vm ∧ U.heap = h0) (fun _ _ _ _ _ => True) (fun _ U o U' => ∃ v L, o = .returned v ∧ Q2_3lt Z y0 y1 y2 h0 n0 v U'.heap L ∧ FrameEnd U o U' L ({ frames := 1, cells := 0, slots := 0, locals := 12 } : Room).cells ({ frames := 1, cells := 0, slots := 0, locals := 12 } : Room).slots) := by
  refine MetFree.of_bodySF (plainFor_of_name pn_0) hisR ?_
  intro p e s m args below meth c s₁ Bd hml0 hP hK
  obtain ⟨rfl, hZ, hh⟩ := hP
  have hx := Bd.exec
  have hby := Bd.bytes
  have hml : c.maxLocals = 6 := hml0
  have hown : s.vm.findClass "com/example/reckonmill/reckonmill/lib/model/tree/Comparison" = some m.cls := findClass_of_methodNamed Bd.named
  have hnm := (name_of_methodNamed Bd.named Bd.method).1
  have X0 : Stand p l e ({ frames := 1, cells := 0, slots := 0, locals := 12 } : Room) s m #[(.ref y0), (.double y1), (.double y2)] below meth c s₁ [] 0 0 := Stand.of_body Bd
  have e0 : s₁.heap = h0 := by rw [← hh, Bd.state]; rfl
  have N0 := Fr.nil n0
  show own_Ends p e below s (Q2_3lt Z y0 y1 y2 h0 n0) _ _ s₁ _
  rw [ef_rm2_3lt m y0 y1 y2]
  refine own_go (T' := s₁) (f' := (mkF m 1 #[.val (.ref y0), .val (.double y1), .second, .val (.double y2), .second, .unset] [(.ref y0)])) (fun _ k => XS.aloadN X0.here hx rfl (hb hby d2_0) rfl rfl k) ?_
  obtain ⟨cq1, kq1, q1a, q1b, q1c⟩ := isOf hZ e0 E_y0
  obtain ⟨_, _, ⟨T1, L1, k1, n1⟩, -, X1, ⟨Lc1, hQ1, l1, y1, z1⟩, st1⟩ := X0.virtualBackUp hx (owner := "java/lang/Enum") (x := mn1) (y := mn0) hown (mvT hZ (ow13 hw)) (mvT hZ (ow14 hw)) (mvT hZ (ow15 hw)) (by decide) (mvT hZ (ow17 hw)) (mvT hZ (ow16 hw)) (backOf (W := 0) (rm3 l Z a0 hw [] y0 (3 : Int32) h0 n0 Z0 F_o) hZ (ow19 hw) (ow18 hw) (by decide) (by decide)) q1a q1c (g := (mkF m 1 #[.val (.ref y0), .val (.double y1), .second, .val (.double y2), .second, .unset] [(.ref y0)])) rfl (by rw [hml]; rfl) (Steps.refl _) (argsL := []) (rest := []) (lenOf pd0 rfl) rfl (by show 2 * 0 + _ ≤ _; exact Nat.le_of_eq rfl) (hb hby d2_1) (fun _ _ => ⟨rfl, e0, (by decide : 0 + 0 ≤ _), (by decide : 0 + 0 ≤ _)⟩)
  dsimp only [Pt.U, Pt.locs, Pt.cells, Pt.slots] at X1 l1 y1 z1 st1 hQ1
  subst l1 y1 z1
  obtain ⟨rfl, N1q, hh1⟩ := hQ1
  have N1 := Fr.app N0 N1q
  refine own_go (T' := T1) (f' := (mkF m 94 #[.val (.ref y0), .val (.double y1), .second, .val (.double y2), .second, .unset] [])) (fun _ k => st1.trans (XS.tswIn X1.here hx rfl (o := 84) (pc0 := 4) (pc' := 88) rfl (hb hby d2_4) rfl (by decide) rfl (by decide) (by decide) (own_dloadN X1.here hx rfl (hb hby d2_88) rfl (own_dloadN X1.here hx rfl (hb hby d2_89) rfl (own_dcmp (o := .lt) X1.here hx rfl (hb hby d2_90) rfl hcmp (XS.ifNo X1.here hx rfl (hb hby d2_91) rfl ((if0 _ _).trans (flt (by decide : ¬ ((0 : Int32) < (-1 : Int32)))).2.2.1) k)))))) ?_
  refine own_go (T' := T1) (f' := (mkF m 135 #[.val (.ref y0), .val (.double y1), .second, .val (.double y2), .second, .val (.int (1 : Int32))] [(.int (1 : Int32))])) (fun _ k => XS.iconst X1.here hx rfl (hb hby d2_94) (XS.goto X1.here hx rfl (pc0 := 95) (pc' := 99) rfl (hb hby d2_95) (by decide) (by decide) (XS.istore X1.here hx rfl (hb hby d2_99) rfl (l' := #[.val (.ref y0), .val (.double y1), .second, .val (.double y2), .second, .val (.int (1 : Int32))]) rfl (XS.goto X1.here hx rfl (pc0 := 101) (pc' := 133) rfl (hb hby d2_101) (by decide) (by decide) (XS.iload X1.here hx rfl (hb hby d2_133) rfl k))))) ?_
  refine own_ret X1 (v := some (.int (1 : Int32))) (fun h => by rw [Bd.returns] at h; cases h) Bd.notSynchronized (fun fs hr => retN X1 hx (t := .boolean) Bd.returns (by simp) (hb hby d2_135) hr) ?_ (by decide) (by decide)
  show Q2_3lt Z y0 y1 y2 h0 n0 _ T1.heap _
  exact ⟨rfl, N1, hh1⟩
theorem ef_rm2_3eq (m : MethodId) (y0 : Addr) (y1 : UInt64) (y2 : UInt64) : entryFrame m #[(.ref y0), (.double y1), (.double y2)] 6 = mkF m 0 #[.val (.ref y0), .val (.double y1), .second, .val (.double y2), .second, .unset] [] := by first | (simp [entryFrame, mkF, argsToLocals, Value.category]; done) | rfl
def Q2_3eq (Z : State) (y0 : Addr) (y1 : UInt64) (y2 : UInt64) (h0 : Heap) (n0 : Nat) (v : Option Value) (h : Heap) (L : List Loc) : Prop := v = some (.int (1 : Int32)) ∧ Fr n0 L ∧ h = h0
set_option maxRecDepth 65536 in
set_option maxHeartbeats 40000000 in
theorem rm2_3eq (l : Launch) (Z : State) (a0 : Array Value) (hw : ∀ d ∈ tables_1, d.before a0 Z = true) (ws : List Jvm.Cond) (y0 : Addr) (y1 : UInt64) (y2 : UInt64) (h0 : Heap) (n0 : Nat) (Z0 : n0 ≤ h0.size) (F_o : Fld Z h0 y0 "java/lang/Enum" "ordinal" "I" (.int (3 : Int32))) (E_y0 : Exa Z h0 y0 "com/example/reckonmill/reckonmill/lib/model/tree/Comparison") (hcmp : FP.dcmp y1 y2 = some .eq) :
    MetFree l mn2 (head1 (Jvm.Cond.code mn2 prog_17_method_6_code 6 (some .boolean) :: ws) ({ frames := 1, cells := 0, slots := 0, locals := 12 } : Room)) (fun a U => a = #[(.ref y0), (.double y1), (.double y2)] ∧ Z.Warmed39 U.vm ∧ U.heap = h0) (fun _ _ _ _ _ => True) (fun _ U o U' => ∃ v L, o = .returned v ∧ Q2_3eq Z y0 y1 y2 h0 n0 v U'.heap L ∧ FrameEnd U o U' L ({ frames := 1, cells := 0, slots := 0, locals := 12 } : Room).cells ({ frames := 1, cells := 0, slots := 0, locals := 12 } : Room).slots) := by
  refine MetFree.of_bodySF (plainFor_of_name pn_0) hisR ?_
  intro p e s m args below meth c s₁ Bd hml0 hP hK
  obtain ⟨rfl, hZ, hh⟩ := hP
  have hx := Bd.exec
  have hby := Bd.bytes
  have hml : c.maxLocals = 6 := hml0
  have hown : s.vm.findClass "com/example/reckonmill/reckonmill/lib/model/tree/Comparison" = some m.cls := findClass_of_methodNamed Bd.named
  have hnm := (name_of_methodNamed Bd.named Bd.method).1
  have X0 : Stand p l e ({ frames := 1, cells := 0, slots := 0, locals := 12 } : Room) s m #[(.ref y0), (.double y1), (.double y2)] below meth c s₁ [] 0 0 := Stand.of_body Bd
  have e0 : s₁.heap = h0 := by rw [← hh, Bd.state]; rfl
  have N0 := Fr.nil n0
  show own_Ends p e below s (Q2_3eq Z y0 y1 y2 h0 n0) _ _ s₁ _
  rw [ef_rm2_3eq m y0 y1 y2]
  refine own_go (T' := s₁) (f' := (mkF m 1 #[.val (.ref y0), .val (.double y1), .second, .val (.double y2), .second, .unset] [(.ref y0)])) (fun _ k => XS.aloadN X0.here hx rfl (hb hby d2_0) rfl rfl k) ?_
  obtain ⟨cq1, kq1, q1a, q1b, q1c⟩ := isOf hZ e0 E_y0
  obtain ⟨_, _, ⟨T1, L1, k1, n1⟩, -, X1, ⟨Lc1, hQ1, l1, y1, z1⟩, st1⟩ := X0.virtualBackUp hx (owner := "java/lang/Enum") (x := mn1) (y := mn0) hown (mvT hZ (ow13 hw)) (mvT hZ (ow14 hw)) (mvT hZ (ow15 hw)) (by decide) (mvT hZ (ow17 hw)) (mvT hZ (ow16 hw)) (backOf (W := 0) (rm3 l Z a0 hw [] y0 (3 : Int32) h0 n0 Z0 F_o) hZ (ow19 hw) (ow18 hw) (by decide) (by decide)) q1a q1c (g := (mkF m 1 #[.val (.ref y0), .val (.double y1), .second, .val (.double y2), .second, .unset] [(.ref y0)])) rfl (by rw [hml]; rfl) (Steps.refl _) (argsL := []) (rest := []) (lenOf pd0 rfl) rfl (by show 2 * 0 + _ ≤ _; exact Nat.le_of_eq rfl) (hb hby d2_1) (fun _ _ => ⟨rfl, e0, (by decide : 0 + 0 ≤ _), (by decide : 0 + 0 ≤ _)⟩)
  dsimp only [Pt.U, Pt.locs, Pt.cells, Pt.slots] at X1 l1 y1 z1 st1 hQ1
  subst l1 y1 z1
  obtain ⟨rfl, N1q, hh1⟩ := hQ1
  have N1 := Fr.app N0 N1q
  refine own_go (T' := T1) (f' := (mkF m 94 #[.val (.ref y0), .val (.double y1), .second, .val (.double y2), .second, .unset] [])) (fun _ k => st1.trans (XS.tswIn X1.here hx rfl (o := 84) (pc0 := 4) (pc' := 88) rfl (hb hby d2_4) rfl (by decide) rfl (by decide) (by decide) (own_dloadN X1.here hx rfl (hb hby d2_88) rfl (own_dloadN X1.here hx rfl (hb hby d2_89) rfl (own_dcmp (o := .eq) X1.here hx rfl (hb hby d2_90) rfl hcmp (XS.ifNo X1.here hx rfl (hb hby d2_91) rfl ((if0 _ _).trans (flt (by decide : ¬ ((0 : Int32) < (0 : Int32)))).2.2.1) k)))))) ?_
  refine own_go (T' := T1) (f' := (mkF m 135 #[.val (.ref y0), .val (.double y1), .second, .val (.double y2), .second, .val (.int (1 : Int32))] [(.int (1 : Int32))])) (fun _ k => XS.iconst X1.here hx rfl (hb hby d2_94) (XS.goto X1.here hx rfl (pc0 := 95) (pc' := 99) rfl (hb hby d2_95) (by decide) (by decide) (XS.istore X1.here hx rfl (hb hby d2_99) rfl (l' := #[.val (.ref y0), .val (.double y1), .second, .val (.double y2), .second, .val (.int (1 : Int32))]) rfl (XS.goto X1.here hx rfl (pc0 := 101) (pc' := 133) rfl (hb hby d2_101) (by decide) (by decide) (XS.iload X1.here hx rfl (hb hby d2_133) rfl k))))) ?_
  refine own_ret X1 (v := some (.int (1 : Int32))) (fun h => by rw [Bd.returns] at h; cases h) Bd.notSynchronized (fun fs hr => retN X1 hx (t := .boolean) Bd.returns (by simp) (hb hby d2_135) hr) ?_ (by decide) (by decide)
  show Q2_3eq Z y0 y1 y2 h0 n0 _ T1.heap _
  exact ⟨rfl, N1, hh1⟩
theorem d2_98 : decode prog_17_method_6_code 98 = .ok (.iconst 0, 1) := by decide +kernel
theorem ef_rm2_3gt (m : MethodId) (y0 : Addr) (y1 : UInt64) (y2 : UInt64) : entryFrame m #[(.ref y0), (.double y1), (.double y2)] 6 = mkF m 0 #[.val (.ref y0), .val (.double y1), .second, .val (.double y2), .second, .unset] [] := by first | (simp [entryFrame, mkF, argsToLocals, Value.category]; done) | rfl
def Q2_3gt (Z : State) (y0 : Addr) (y1 : UInt64) (y2 : UInt64) (h0 : Heap) (n0 : Nat) (v : Option Value) (h : Heap) (L : List Loc) : Prop := v = some (.int (0 : Int32)) ∧ Fr n0 L ∧ h = h0
set_option maxRecDepth 65536 in
set_option maxHeartbeats 40000000 in
theorem rm2_3gt (l : Launch) (Z : State) (a0 : Array Value) (hw : ∀ d ∈ tables_1, d.before a0 Z = true) (ws : List Jvm.Cond) (y0 : Addr) (y1 : UInt64) (y2 : UInt64) (h0 : Heap) (n0 : Nat) (Z0 : n0 ≤ h0.size) (F_o : Fld Z h0 y0 "java/lang/Enum" "ordinal" "I" (.int (3 : Int32))) (E_y0 : Exa Z h0 y0 "com/example/reckonmill/reckonmill/lib/model/tree/Comparison") (hcmp : FP.dcmp y1 y2 = some .gt) :
    MetFree l mn2 (head1 (Jvm.Cond.code mn2 prog_17_method_6_code 6 (some .boolean) :: ws) ({ frames := 1, cells := 0, slots := 0, locals := 12 } : Room)) (fun a U => a = #[(.ref y0), (.double y1), (.double y2)] ∧ Z.Warmed39 U.vm ∧ U.heap = h0) (fun _ _ _ _ _ => True) (fun _ U o U' => ∃ v L, o = .returned v ∧ Q2_3gt Z y0 y1 y2 h0 n0 v U'.heap L ∧ FrameEnd U o U' L ({ frames := 1, cells := 0, slots := 0, locals := 12 } : Room).cells ({ frames := 1, cells := 0, slots := 0, locals := 12 } : Room).slots) := by
  refine MetFree.of_bodySF (plainFor_of_name pn_0) hisR ?_
  intro p e s m args below meth c s₁ Bd hml0 hP hK
  obtain ⟨rfl, hZ, hh⟩ := hP
  have hx := Bd.exec
  have hby := Bd.bytes
  have hml : c.maxLocals = 6 := hml0
  have hown : s.vm.findClass "com/example/reckonmill/reckonmill/lib/model/tree/Comparison" = some m.cls := findClass_of_methodNamed Bd.named
  have hnm := (name_of_methodNamed Bd.named Bd.method).1
  have X0 : Stand p l e ({ frames := 1, cells := 0, slots := 0, locals := 12 } : Room) s m #[(.ref y0), (.double y1), (.double y2)] below meth c s₁ [] 0 0 := Stand.of_body Bd
  have e0 : s₁.heap = h0 := by rw [← hh, Bd.state]; rfl
  have N0 := Fr.nil n0
  show own_Ends p e below s (Q2_3gt Z y0 y1 y2 h0 n0) _ _ s₁ _
  rw [ef_rm2_3gt m y0 y1 y2]
  refine own_go (T' := s₁) (f' := (mkF m 1 #[.val (.ref y0), .val (.double y1), .second, .val (.double y2), .second, .unset] [(.ref y0)])) (fun _ k => XS.aloadN X0.here hx rfl (hb hby d2_0) rfl rfl k) ?_
  obtain ⟨cq1, kq1, q1a, q1b, q1c⟩ := isOf hZ e0 E_y0
  obtain ⟨_, _, ⟨T1, L1, k1, n1⟩, -, X1, ⟨Lc1, hQ1, l1, y1, z1⟩, st1⟩ := X0.virtualBackUp hx (owner := "java/lang/Enum") (x := mn1) (y := mn0) hown (mvT hZ (ow13 hw)) (mvT hZ (ow14 hw)) (mvT hZ (ow15 hw)) (by decide) (mvT hZ (ow17 hw)) (mvT hZ (ow16 hw)) (backOf (W := 0) (rm3 l Z a0 hw [] y0 (3 : Int32) h0 n0 Z0 F_o) hZ (ow19 hw) (ow18 hw) (by decide) (by decide)) q1a q1c (g := (mkF m 1 #[.val (.ref y0), .val (.double y1), .second, .val (.double y2), .second, .unset] [(.ref y0)])) rfl (by rw [hml]; rfl) (Steps.refl _) (argsL := []) (rest := []) (lenOf pd0 rfl) rfl (by show 2 * 0 + _ ≤ _; exact Nat.le_of_eq rfl) (hb hby d2_1) (fun _ _ => ⟨rfl, e0, (by decide : 0 + 0 ≤ _), (by decide : 0 + 0 ≤ _)⟩)
  dsimp only [Pt.U, Pt.locs, Pt.cells, Pt.slots] at X1 l1 y1 z1 st1 hQ1
  subst l1 y1 z1
  obtain ⟨rfl, N1q, hh1⟩ := hQ1
  have N1 := Fr.app N0 N1q
  refine own_go (T' := T1) (f' := (mkF m 98 #[.val (.ref y0), .val (.double y1), .second, .val (.double y2), .second, .unset] [])) (fun _ k => st1.trans (XS.tswIn X1.here hx rfl (o := 84) (pc0 := 4) (pc' := 88) rfl (hb hby d2_4) rfl (by decide) rfl (by decide) (by decide) (own_dloadN X1.here hx rfl (hb hby d2_88) rfl (own_dloadN X1.here hx rfl (hb hby d2_89) rfl (own_dcmp (o := .gt) X1.here hx rfl (hb hby d2_90) rfl hcmp (XS.ifYes X1.here hx rfl (pc0 := 91) (pc' := 98) rfl (hb hby d2_91) rfl ((if0 _ _).trans (tlt (by decide : ((0 : Int32) < (1 : Int32)))).2.2.1) (by decide) (by decide) k)))))) ?_
  refine own_go (T' := T1) (f' := (mkF m 135 #[.val (.ref y0), .val (.double y1), .second, .val (.double y2), .second, .val (.int (0 : Int32))] [(.int (0 : Int32))])) (fun _ k => XS.iconst X1.here hx rfl (hb hby d2_98) (XS.istore X1.here hx rfl (hb hby d2_99) rfl (l' := #[.val (.ref y0), .val (.double y1), .second, .val (.double y2), .second, .val (.int (0 : Int32))]) rfl (XS.goto X1.here hx rfl (pc0 := 101) (pc' := 133) rfl (hb hby d2_101) (by decide) (by decide) (XS.iload X1.here hx rfl (hb hby d2_133) rfl k)))) ?_
  refine own_ret X1 (v := some (.int (0 : Int32))) (fun h => by rw [Bd.returns] at h; cases h) Bd.notSynchronized (fun fs hr => retN X1 hx (t := .boolean) Bd.returns (by simp) (hb hby d2_135) hr) ?_ (by decide) (by decide)
  show Q2_3gt Z y0 y1 y2 h0 n0 _ T1.heap _
  exact ⟨rfl, N1, hh1⟩
theorem d2_104 : decode prog_17_method_6_code 104 = .ok (.dload_n 1, 1) := by decide +kernel
theorem d2_105 : decode prog_17_method_6_code 105 = .ok (.dload_n 3, 1) := by decide +kernel
theorem d2_106 : decode prog_17_method_6_code 106 = .ok (.dcmp .l, 1) := by decide +kernel
theorem d2_107 : decode prog_17_method_6_code 107 = .ok (.ifCond .le 7, 3) := by decide +kernel
theorem d2_114 : decode prog_17_method_6_code 114 = .ok (.iconst 0, 1) := by decide +kernel
theorem d2_115 : decode prog_17_method_6_code 115 = .ok (.istore 5, 2) := by decide +kernel
theorem d2_117 : decode prog_17_method_6_code 117 = .ok (.goto 16, 3) := by decide +kernel
theorem ef_rm2_4lt (m : MethodId) (y0 : Addr) (y1 : UInt64) (y2 : UInt64) : entryFrame m #[(.ref y0), (.double y1), (.double y2)] 6 = mkF m 0 #[.val (.ref y0), .val (.double y1), .second, .val (.double y2), .second, .unset] [] := by first | (simp [entryFrame, mkF, argsToLocals, Value.category]; done) | rfl
def Q2_4lt (Z : State) (y0 : Addr) (y1 : UInt64) (y2 : UInt64) (h0 : Heap) (n0 : Nat) (v : Option Value) (h : Heap) (L : List Loc) : Prop := v = some (.int (0 : Int32)) ∧ Fr n0 L ∧ h = h0
set_option maxRecDepth 65536 in
set_option maxHeartbeats 40000000 in
theorem rm2_4lt (l : Launch) (Z : State) (a0 : Array Value) (hw : ∀ d ∈ tables_1, d.before a0 Z = true) (ws : List Jvm.Cond) (y0 : Addr) (y1 : UInt64) (y2 : UInt64) (h0 : Heap) (n0 : Nat) (Z0 : n0 ≤ h0.size) (F_o : Fld Z h0 y0 "java/lang/Enum" "ordinal" "I" (.int (4 : Int32))) (E_y0 : Exa Z h0 y0 "com/example/reckonmill/reckonmill/lib/model/tree/Comparison") (hcmp : FP.dcmp y1 y2 = some .lt) :
    MetFree l mn2 (head1 (Jvm.Cond.code mn2 prog_17_method_6_code 6 (some .boolean) :: ws) ({ frames := 1, cells := 0, slots := 0, locals := 12 } : Room)) (fun a U => a = #[(.ref y0), (.double y1), (.double y2)] ∧ Z.Warmed39 U.vm ∧ U.heap = h0) (fun _ _ _ _ _ => True) (fun _ U o U' => ∃ v L, o = .returned v ∧ Q2_4lt Z y0 y1 y2 h0 n0 v U'.heap L ∧ FrameEnd U o U' L ({ frames := 1, cells := 0, slots := 0, locals := 12 } : Room).cells ({ frames := 1, cells := 0, slots := 0, locals := 12 } : Room).slots) := by
  refine MetFree.of_bodySF (plainFor_of_name pn_0) hisR ?_
  intro p e s m args below meth c s₁ Bd hml0 hP hK
  obtain ⟨rfl, hZ, hh⟩ := hP
  have hx := Bd.exec
  have hby := Bd.bytes
  have hml : c.maxLocals = 6 := hml0
  have hown : s.vm.findClass "com/example/reckonmill/reckonmill/lib/model/tree/Comparison" = some m.cls := findClass_of_methodNamed Bd.named
  have hnm := (name_of_methodNamed Bd.named Bd.method).1
  have X0 : Stand p l e ({ frames := 1, cells := 0, slots := 0, locals := 12 } : Room) s m #[(.ref y0), (.double y1), (.double y2)] below meth c s₁ [] 0 0 := Stand.of_body Bd
  have e0 : s₁.heap = h0 := by rw [← hh, Bd.state]; rfl
  have N0 := Fr.nil n0
  show own_Ends p e below s (Q2_4lt Z y0 y1 y2 h0 n0) _ _ s₁ _
  rw [ef_rm2_4lt m y0 y1 y2]
  refine own_go (T' := s₁) (f' := (mkF m 1 #[.val (.ref y0), .val (.double y1), .second, .val (.double y2), .second, .unset] [(.ref y0)])) (fun _ k => XS.aloadN X0.here hx rfl (hb hby d2_0) rfl rfl k) ?_
  obtain ⟨cq1, kq1, q1a, q1b, q1c⟩ := isOf hZ e0 E_y0
  obtain ⟨_, _, ⟨T1, L1, k1, n1⟩, -, X1, ⟨Lc1, hQ1, l1, y1, z1⟩, st1⟩ := X0.virtualBackUp hx (owner := "java/lang/Enum") (x := mn1) (y := mn0) hown (mvT hZ (ow13 hw)) (mvT hZ (ow14 hw)) (mvT hZ (ow15 hw)) (by decide) (mvT hZ (ow17 hw)) (mvT hZ (ow16 hw)) (backOf (W := 0) (rm3 l Z a0 hw [] y0 (4 : Int32) h0 n0 Z0 F_o) hZ (ow19 hw) (ow18 hw) (by decide) (by decide)) q1a q1c (g := (mkF m 1 #[.val (.ref y0), .val (.double y1), .second, .val (.double y2), .second, .unset] [(.ref y0)])) rfl (by rw [hml]; rfl) (Steps.refl _) (argsL := []) (rest := []) (lenOf pd0 rfl) rfl (by show 2 * 0 + _ ≤ _; exact Nat.le_of_eq rfl) (hb hby d2_1) (fun _ _ => ⟨rfl, e0, (by decide : 0 + 0 ≤ _), (by decide : 0 + 0 ≤ _)⟩)
  dsimp only [Pt.U, Pt.locs, Pt.cells, Pt.slots] at X1 l1 y1 z1 st1 hQ1
  subst l1 y1 z1
  obtain ⟨rfl, N1q, hh1⟩ := hQ1
  have N1 := Fr.app N0 N1q
  refine own_go (T' := T1) (f' := (mkF m 114 #[.val (.ref y0), .val (.double y1), .second, .val (.double y2), .second, .unset] [])) (fun _ k => st1.trans (XS.tswIn X1.here hx rfl (o := 100) (pc0 := 4) (pc' := 104) rfl (hb hby d2_4) rfl (by decide) rfl (by decide) (by decide) (own_dloadN X1.here hx rfl (hb hby d2_104) rfl (own_dloadN X1.here hx rfl (hb hby d2_105) rfl (own_dcmp (o := .lt) X1.here hx rfl (hb hby d2_106) rfl hcmp (XS.ifYes X1.here hx rfl (pc0 := 107) (pc' := 114) rfl (hb hby d2_107) rfl ((if0 _ _).trans (flt (by decide : ¬ ((0 : Int32) < (-1 : Int32)))).2.2.2) (by decide) (by decide) k)))))) ?_
  refine own_go (T' := T1) (f' := (mkF m 135 #[.val (.ref y0), .val (.double y1), .second, .val (.double y2), .second, .val (.int (0 : Int32))] [(.int (0 : Int32))])) (fun _ k => XS.iconst X1.here hx rfl (hb hby d2_114) (XS.istore X1.here hx rfl (hb hby d2_115) rfl (l' := #[.val (.ref y0), .val (.double y1), .second, .val (.double y2), .second, .val (.int (0 : Int32))]) rfl (XS.goto X1.here hx rfl (pc0 := 117) (pc' := 133) rfl (hb hby d2_117) (by decide) (by decide) (XS.iload X1.here hx rfl (hb hby d2_133) rfl k)))) ?_
  refine own_ret X1 (v := some (.int (0 : Int32))) (fun h => by rw [Bd.returns] at h; cases h) Bd.notSynchronized (fun fs hr => retN X1 hx (t := .boolean) Bd.returns (by simp) (hb hby d2_135) hr) ?_ (by decide) (by decide)
  show Q2_4lt Z y0 y1 y2 h0 n0 _ T1.heap _
  exact ⟨rfl, N1, hh1⟩
theorem ef_rm2_4eq (m : MethodId) (y0 : Addr) (y1 : UInt64) (y2 : UInt64) : entryFrame m #[(.ref y0), (.double y1), (.double y2)] 6 = mkF m 0 #[.val (.ref y0), .val (.double y1), .second, .val (.double y2), .second, .unset] [] := by first | (simp [entryFrame, mkF, argsToLocals, Value.category]; done) | rfl
def Q2_4eq (Z : State) (y0 : Addr) (y1 : UInt64) (y2 : UInt64) (h0 : Heap) (n0 : Nat) (v : Option Value) (h : Heap) (L : List Loc) : Prop := v = some (.int (0 : Int32)) ∧ Fr n0 L ∧ h = h0
set_option maxRecDepth 65536 in
set_option maxHeartbeats 40000000 in
theorem rm2_4eq (l : Launch) (Z : State) (a0 : Array Value) (hw : ∀ d ∈ tables_1, d.before a0 Z = true) (ws : List Jvm.Cond) (y0 : Addr) (y1 : UInt64) (y2 : UInt64) (h0 : Heap) (n0 : Nat) (Z0 : n0 ≤ h0.size) (F_o : Fld Z h0 y0 "java/lang/Enum" "ordinal" "I" (.int (4 : Int32))) (E_y0 : Exa Z h0 y0 "com/example/reckonmill/reckonmill/lib/model/tree/Comparison") (hcmp : FP.dcmp y1 y2 = some .eq) :
    MetFree l mn2 (head1 (Jvm.Cond.code mn2 prog_17_method_6_code 6 (some .boolean) :: ws) ({ frames := 1, cells := 0, slots := 0, locals := 12 } : Room)) (fun a U => a = #[(.ref y0), (.double y1), (.double y2)] ∧ Z.Warmed39 U.vm ∧ U.heap = h0) (fun _ _ _ _ _ => True) (fun _ U o U' => ∃ v L, o = .returned v ∧ Q2_4eq Z y0 y1 y2 h0 n0 v U'.heap L ∧ FrameEnd U o U' L ({ frames := 1, cells := 0, slots := 0, locals := 12 } : Room).cells ({ frames := 1, cells := 0, slots := 0, locals := 12 } : Room).slots) := by
  refine MetFree.of_bodySF (plainFor_of_name pn_0) hisR ?_
  intro p e s m args below meth c s₁ Bd hml0 hP hK
  obtain ⟨rfl, hZ, hh⟩ := hP
  have hx := Bd.exec
  have hby := Bd.bytes
  have hml : c.maxLocals = 6 := hml0
  have hown : s.vm.findClass "com/example/reckonmill/reckonmill/lib/model/tree/Comparison" = some m.cls := findClass_of_methodNamed Bd.named
  have hnm := (name_of_methodNamed Bd.named Bd.method).1
  have X0 : Stand p l e ({ frames := 1, cells := 0, slots := 0, locals := 12 } : Room) s m #[(.ref y0), (.double y1), (.double y2)] below meth c s₁ [] 0 0 := Stand.of_body Bd
  have e0 : s₁.heap = h0 := by rw [← hh, Bd.state]; rfl
  have N0 := Fr.nil n0
  show own_Ends p e below s (Q2_4eq Z y0 y1 y2 h0 n0) _ _ s₁ _
  rw [ef_rm2_4eq m y0 y1 y2]
  refine own_go (T' := s₁) (f' := (mkF m 1 #[.val (.ref y0), .val (.double y1), .second, .val (.double y2), .second, .unset] [(.ref y0)])) (fun _ k => XS.aloadN X0.here hx rfl (hb hby d2_0) rfl rfl k) ?_
  obtain ⟨cq1, kq1, q1a, q1b, q1c⟩ := isOf hZ e0 E_y0
  obtain ⟨_, _, ⟨T1, L1, k1, n1⟩, -, X1, ⟨Lc1, hQ1, l1, y1, z1⟩, st1⟩ := X0.virtualBackUp hx (owner := "java/lang/Enum") (x := mn1) (y := mn0) hown (mvT hZ (ow13 hw)) (mvT hZ (ow14 hw)) (mvT hZ (ow15 hw)) (by decide) (mvT hZ (ow17 hw)) (mvT hZ (ow16 hw)) (backOf (W := 0) (rm3 l Z a0 hw [] y0 (4 : Int32) h0 n0 Z0 F_o) hZ (ow19 hw) (ow18 hw) (by decide) (by decide)) q1a q1c (g := (mkF m 1 #[.val (.ref y0), .val (.double y1), .second, .val (.double y2), .second, .unset] [(.ref y0)])) rfl (by rw [hml]; rfl) (Steps.refl _) (argsL := []) (rest := []) (lenOf pd0 rfl) rfl (by show 2 * 0 + _ ≤ _; exact Nat.le_of_eq rfl) (hb hby d2_1) (fun _ _ => ⟨rfl, e0, (by decide : 0 + 0 ≤ _), (by decide : 0 + 0 ≤ _)⟩)
  dsimp only [Pt.U, Pt.locs, Pt.cells, Pt.slots] at X1 l1 y1 z1 st1 hQ1
  subst l1 y1 z1
  obtain ⟨rfl, N1q, hh1⟩ := hQ1
  have N1 := Fr.app N0 N1q
  refine own_go (T' := T1) (f' := (mkF m 114 #[.val (.ref y0), .val (.double y1), .second, .val (.double y2), .second, .unset] [])) (fun _ k => st1.trans (XS.tswIn X1.here hx rfl (o := 100) (pc0 := 4) (pc' := 104) rfl (hb hby d2_4) rfl (by decide) rfl (by decide) (by decide) (own_dloadN X1.here hx rfl (hb hby d2_104) rfl (own_dloadN X1.here hx rfl (hb hby d2_105) rfl (own_dcmp (o := .eq) X1.here hx rfl (hb hby d2_106) rfl hcmp (XS.ifYes X1.here hx rfl (pc0 := 107) (pc' := 114) rfl (hb hby d2_107) rfl ((if0 _ _).trans (flt (by decide : ¬ ((0 : Int32) < (0 : Int32)))).2.2.2) (by decide) (by decide) k)))))) ?_
  refine own_go (T' := T1) (f' := (mkF m 135 #[.val (.ref y0), .val (.double y1), .second, .val (.double y2), .second, .val (.int (0 : Int32))] [(.int (0 : Int32))])) (fun _ k => XS.iconst X1.here hx rfl (hb hby d2_114) (XS.istore X1.here hx rfl (hb hby d2_115) rfl (l' := #[.val (.ref y0), .val (.double y1), .second, .val (.double y2), .second, .val (.int (0 : Int32))]) rfl (XS.goto X1.here hx rfl (pc0 := 117) (pc' := 133) rfl (hb hby d2_117) (by decide) (by decide) (XS.iload X1.here hx rfl (hb hby d2_133) rfl k)))) ?_
  refine own_ret X1 (v := some (.int (0 : Int32))) (fun h => by rw [Bd.returns] at h; cases h) Bd.notSynchronized (fun fs hr => retN X1 hx (t := .boolean) Bd.returns (by simp) (hb hby d2_135) hr) ?_ (by decide) (by decide)
  show Q2_4eq Z y0 y1 y2 h0 n0 _ T1.heap _
  exact ⟨rfl, N1, hh1⟩
theorem d2_110 : decode prog_17_method_6_code 110 = .ok (.iconst 1, 1) := by decide +kernel
theorem d2_111 : decode prog_17_method_6_code 111 = .ok (.goto 4, 3) := by decide +kernel
theorem ef_rm2_4gt (m : MethodId) (y0 : Addr) (y1 : UInt64) (y2 : UInt64) : entryFrame m #[(.ref y0), (.double y1), (.double y2)] 6 = mkF m 0 #[.val (.ref y0), .val (.double y1), .second, .val (.double y2), .second, .unset] [] := by first | (simp [entryFrame, mkF, argsToLocals, Value.category]; done) | rfl
def Q2_4gt (Z : State) (y0 : Addr) (y1 : UInt64) (y2 : UInt64) (h0 : Heap) (n0 : Nat) (v : Option Value) (h : Heap) (L : List Loc) : Prop := v = some (.int (1 : Int32)) ∧ Fr n0 L ∧ h = h0
set_option maxRecDepth 65536 in
set_option maxHeartbeats 40000000 in
theorem rm2_4gt (l : Launch) (Z : State) (a0 : Array Value) (hw : ∀ d ∈ tables_1, d.before a0 Z = true) (ws : List Jvm.Cond) (y0 : Addr) (y1 : UInt64) (y2 : UInt64) (h0 : Heap) (n0 : Nat) (Z0 : n0 ≤ h0.size) (F_o : Fld Z h0 y0 "java/lang/Enum" "ordinal" "I" (.int (4 : Int32))) (E_y0 : Exa Z h0 y0 "com/example/reckonmill/reckonmill/lib/model/tree/Comparison") (hcmp : FP.dcmp y1 y2 = some .gt) :
    MetFree l mn2 (head1 (Jvm.Cond.code mn2 prog_17_method_6_code 6 (some .boolean) :: ws) ({ frames := 1, cells := 0, slots := 0, locals := 12 } : Room)) (fun a U => a = #[(.ref y0), (.double y1), (.double y2)] ∧ Z.Warmed39 U.vm ∧ U.heap = h0) (fun _ _ _ _ _ => True) (fun _ U o U' => ∃ v L, o = .returned v ∧ Q2_4gt Z y0 y1 y2 h0 n0 v U'.heap L ∧ FrameEnd U o U' L ({ frames := 1, cells := 0, slots := 0, locals := 12 } : Room).cells ({ frames := 1, cells := 0, slots := 0, locals := 12 } : Room).slots) := by
  refine MetFree.of_bodySF (plainFor_of_name pn_0) hisR ?_
  intro p e s m args below meth c s₁ Bd hml0 hP hK
  obtain ⟨rfl, hZ, hh⟩ := hP
  have hx := Bd.exec
  have hby := Bd.bytes
  have hml : c.maxLocals = 6 := hml0
  have hown : s.vm.findClass "com/example/reckonmill/reckonmill/lib/model/tree/Comparison" = some m.cls := findClass_of_methodNamed Bd.named
  have hnm := (name_of_methodNamed Bd.named Bd.method).1
  have X0 : Stand p l e ({ frames := 1, cells := 0, slots := 0, locals := 12 } : Room) s m #[(.ref y0), (.double y1), (.double y2)] below meth c s₁ [] 0 0 := Stand.of_body Bd
  have e0 : s₁.heap = h0 := by rw [← hh, Bd.state]; rfl
  have N0 := Fr.nil n0
  show own_Ends p e below s (Q2_4gt Z y0 y1 y2 h0 n0) _ _ s₁ _
  rw [ef_rm2_4gt m y0 y1 y2]
  refine own_go (T' := s₁) (f' := (mkF m 1 #[.val (.ref y0), .val (.double y1), .second, .val (.double y2), .second, .unset] [(.ref y0)])) (fun _ k => XS.aloadN X0.here hx rfl (hb hby d2_0) rfl rfl k) ?_
  obtain ⟨cq1, kq1, q1a, q1b, q1c⟩ := isOf hZ e0 E_y0
  obtain ⟨_, _, ⟨T1, L1, k1, n1⟩, -, X1, ⟨Lc1, hQ1, l1, y1, z1⟩, st1⟩ := X0.virtualBackUp hx (owner := "java/lang/Enum") (x := mn1) (y := mn0) hown (mvT hZ (ow13 hw)) (mvT hZ (ow14 hw)) (mvT hZ (ow15 hw)) (by decide) (mvT hZ (ow17 hw)) (mvT hZ (ow16 hw)) (backOf (W := 0) (rm3 l Z a0 hw [] y0 (4 : Int32) h0 n0 Z0 F_o) hZ (ow19 hw) (ow18 hw) (by decide) (by decide)) q1a q1c (g := (mkF m 1 #[.val (.ref y0), .val (.double y1), .second, .val (.double y2), .second, .unset] [(.ref y0)])) rfl (by rw [hml]; rfl) (Steps.refl _) (argsL := []) (rest := []) (lenOf pd0 rfl) rfl (by show 2 * 0 + _ ≤ _; exact Nat.le_of_eq rfl) (hb hby d2_1) (fun _ _ => ⟨rfl, e0, (by decide : 0 + 0 ≤ _), (by decide : 0 + 0 ≤ _)⟩)
  dsimp only [Pt.U, Pt.locs, Pt.cells, Pt.slots] at X1 l1 y1 z1 st1 hQ1
  subst l1 y1 z1
  obtain ⟨rfl, N1q, hh1⟩ := hQ1
  have N1 := Fr.app N0 N1q
  refine own_go (T' := T1) (f' := (mkF m 110 #[.val (.ref y0), .val (.double y1), .second, .val (.double y2), .second, .unset] [])) (fun _ k => st1.trans (XS.tswIn X1.here hx rfl (o := 100) (pc0 := 4) (pc' := 104) rfl (hb hby d2_4) rfl (by decide) rfl (by decide) (by decide) (own_dloadN X1.here hx rfl (hb hby d2_104) rfl (own_dloadN X1.here hx rfl (hb hby d2_105) rfl (own_dcmp (o := .gt) X1.here hx rfl (hb hby d2_106) rfl hcmp (XS.ifNo X1.here hx rfl (hb hby d2_107) rfl ((if0 _ _).trans (tlt (by decide : ((0 : Int32) < (1 : Int32)))).2.2.2) k)))))) ?_
  refine own_go (T' := T1) (f' := (mkF m 135 #[.val (.ref y0), .val (.double y1), .second, .val (.double y2), .second, .val (.int (1 : Int32))] [(.int (1 : Int32))])) (fun _ k => XS.iconst X1.here hx rfl (hb hby d2_110) (XS.goto X1.here hx rfl (pc0 := 111) (pc' := 115) rfl (hb hby d2_111) (by decide) (by decide) (XS.istore X1.here hx rfl (hb hby d2_115) rfl (l' := #[.val (.ref y0), .val (.double y1), .second, .val (.double y2), .second, .val (.int (1 : Int32))]) rfl (XS.goto X1.here hx rfl (pc0 := 117) (pc' := 133) rfl (hb hby d2_117) (by decide) (by decide) (XS.iload X1.here hx rfl (hb hby d2_133) rfl k))))) ?_
  refine own_ret X1 (v := some (.int (1 : Int32))) (fun h => by rw [Bd.returns] at h; cases h) Bd.notSynchronized (fun fs hr => retN X1 hx (t := .boolean) Bd.returns (by simp) (hb hby d2_135) hr) ?_ (by decide) (by decide)
  show Q2_4gt Z y0 y1 y2 h0 n0 _ T1.heap _
  exact ⟨rfl, N1, hh1⟩
theorem d2_120 : decode prog_17_method_6_code 120 = .ok (.dload_n 1, 1) := by decide +kernel
theorem d2_121 : decode prog_17_method_6_code 121 = .ok (.dload_n 3, 1) := by decide +kernel
theorem d2_122 : decode prog_17_method_6_code 122 = .ok (.dcmp .l, 1) := by decide +kernel
theorem d2_123 : decode prog_17_method_6_code 123 = .ok (.ifCond .lt 7, 3) := by decide +kernel
theorem d2_130 : decode prog_17_method_6_code 130 = .ok (.iconst 0, 1) := by decide +kernel
theorem d2_131 : decode prog_17_method_6_code 131 = .ok (.istore 5, 2) := by decide +kernel
theorem ef_rm2_5lt (m : MethodId) (y0 : Addr) (y1 : UInt64) (y2 : UInt64) : entryFrame m #[(.ref y0), (.double y1), (.double y2)] 6 = mkF m 0 #[.val (.ref y0), .val (.double y1), .second, .val (.double y2), .second, .unset] [] := by first | (simp [entryFrame, mkF, argsToLocals, Value.category]; done) | rfl
def Q2_5lt (Z : State) (y0 : Addr) (y1 : UInt64) (y2 : UInt64) (h0 : Heap) (n0 : Nat) (v : Option Value) (h : Heap) (L : List Loc) : Prop := v = some (.int (0 : Int32)) ∧ Fr n0 L ∧ h = h0
set_option maxRecDepth 65536 in
set_option maxHeartbeats 40000000 in
theorem rm2_5lt (l : Launch) (Z : State) (a0 : Array Value) (hw : ∀ d ∈ tables_1, d.before a0 Z = true) (ws : List Jvm.Cond) (y0 : Addr) (y1 : UInt64) (y2 : UInt64) (h0 : Heap) (n0 : Nat) (Z0 : n0 ≤ h0.size) (F_o : Fld Z h0 y0 "java/lang/Enum" "ordinal" "I" (.int (5 : Int32))) (E_y0 : Exa Z h0 y0 "com/example/reckonmill/reckonmill/lib/model/tree/Comparison") (hcmp : FP.dcmp y1 y2 = some .lt) :
    MetFree l mn2 (head1 (Jvm.Cond.code mn2 prog_17_method_6_code 6 (some .boolean) :: ws) ({ frames := 1, cells := 0, slots := 0, locals := 12 } : Room)) (fun a U => a = #[(.ref y0), (.double y1), (.double y2)] ∧ Z.Warmed39 U.vm ∧ U.heap = h0) (fun _ _ _ _ _ => True) (fun _ U o U' => ∃ v L, o = .returned v ∧ Q2_5lt Z y0 y1 y2 h0 n0 v U'.heap L ∧ FrameEnd U o U' L ({ frames := 1, cells := 0, slots := 0, locals := 12 } : Room).cells ({ frames := 1, cells := 0, slots := 0, locals := 12 } : Room).slots) := by
  refine MetFree.of_bodySF (plainFor_of_name pn_0) hisR ?_
  intro p e s m args below meth c s₁ Bd hml0 hP hK
  obtain ⟨rfl, hZ, hh⟩ := hP
  have hx := Bd.exec
  have hby := Bd.bytes
  have hml : c.maxLocals = 6 := hml0
  have hown : s.vm.findClass "com/example/reckonmill/reckonmill/lib/model/tree/Comparison" = some m.cls := findClass_of_methodNamed Bd.named
  have hnm := (name_of_methodNamed Bd.named Bd.method).1
  have X0 : Stand p l e ({ frames := 1, cells := 0, slots := 0, locals := 12 } : Room) s m #[(.ref y0), (.double y1), (.double y2)] below meth c s₁ [] 0 0 := Stand.of_body Bd
  have e0 : s₁.heap = h0 := by rw [← hh, Bd.state]; rfl
  have N0 := Fr.nil n0
  show own_Ends p e below s (Q2_5lt Z y0 y1 y2 h0 n0) _ _ s₁ _
  rw [ef_rm2_5lt m y0 y1 y2]
  refine own_go (T' := s₁) (f' := (mkF m 1 #[.val (.ref y0), .val (.double y1), .second, .val (.double y2), .second, .unset] [(.ref y0)])) (fun _ k => XS.aloadN X0.here hx rfl (hb hby d2_0) rfl rfl k) ?_
  obtain ⟨cq1, kq1, q1a, q1b, q1c⟩ := isOf hZ e0 E_y0
  obtain ⟨_, _, ⟨T1, L1, k1, n1⟩, -, X1, ⟨Lc1, hQ1, l1, y1, z1⟩, st1⟩ := X0.virtualBackUp hx (owner := "java/lang/Enum") (x := mn1) (y := mn0) hown (mvT hZ (ow13 hw)) (mvT hZ (ow14 hw)) (mvT hZ (ow15 hw)) (by decide) (mvT hZ (ow17 hw)) (mvT hZ (ow16 hw)) (backOf (W := 0) (rm3 l Z a0 hw [] y0 (5 : Int32) h0 n0 Z0 F_o) hZ (ow19 hw) (ow18 hw) (by decide) (by decide)) q1a q1c (g := (mkF m 1 #[.val (.ref y0), .val (.double y1), .second, .val (.double y2), .second, .unset] [(.ref y0)])) rfl (by rw [hml]; rfl) (Steps.refl _) (argsL := []) (rest := []) (lenOf pd0 rfl) rfl (by show 2 * 0 + _ ≤ _; exact Nat.le_of_eq rfl) (hb hby d2_1) (fun _ _ => ⟨rfl, e0, (by decide : 0 + 0 ≤ _), (by decide : 0 + 0 ≤ _)⟩)
  dsimp only [Pt.U, Pt.locs, Pt.cells, Pt.slots] at X1 l1 y1 z1 st1 hQ1
  subst l1 y1 z1
  obtain ⟨rfl, N1q, hh1⟩ := hQ1
  have N1 := Fr.app N0 N1q
  refine own_go (T' := T1) (f' := (mkF m 130 #[.val (.ref y0), .val (.double y1), .second, .val (.double y2), .second, .unset] [])) (fun _ k => st1.trans (XS.tswOut X1.here hx rfl (pc0 := 4) (pc' := 120) rfl (hb hby d2_4) rfl (by decide) (by decide) (by decide) (own_dloadN X1.here hx rfl (hb hby d2_120) rfl (own_dloadN X1.here hx rfl (hb hby d2_121) rfl (own_dcmp (o := .lt) X1.here hx rfl (hb hby d2_122) rfl hcmp (XS.ifYes X1.here hx rfl (pc0 := 123) (pc' := 130) rfl (hb hby d2_123) rfl ((if0 _ _).trans (tlt (by decide : ((-1 : Int32) < (0 : Int32)))).1) (by decide) (by decide) k)))))) ?_
  refine own_go (T' := T1) (f' := (mkF m 135 #[.val (.ref y0), .val (.double y1), .second, .val (.double y2), .second, .val (.int (0 : Int32))] [(.int (0 : Int32))])) (fun _ k => XS.iconst X1.here hx rfl (hb hby d2_130) (XS.istore X1.here hx rfl (hb hby d2_131) rfl (l' := #[.val (.ref y0), .val (.double y1), .second, .val (.double y2), .second, .val (.int (0 : Int32))]) rfl (XS.iload X1.here hx rfl (hb hby d2_133) rfl k))) ?_
  refine own_ret X1 (v := some (.int (0 : Int32))) (fun h => by rw [Bd.returns] at h; cases h) Bd.notSynchronized (fun fs hr => retN X1 hx (t := .boolean) Bd.returns (by simp) (hb hby d2_135) hr) ?_ (by decide) (by decide)
  show Q2_5lt Z y0 y1 y2 h0 n0 _ T1.heap _
  exact ⟨rfl, N1, hh1⟩
theorem d2_126 : decode prog_17_method_6_code 126 = .ok (.iconst 1, 1) := by decide +kernel
theorem d2_127 : decode prog_17_method_6_code 127 = .ok (.goto 4, 3) := by decide +kernel
theorem ef_rm2_5eq (m : MethodId) (y0 : Addr) (y1 : UInt64) (y2 : UInt64) : entryFrame m #[(.ref y0), (.double y1), (.double y2)] 6 = mkF m 0 #[.val (.ref y0), .val (.double y1), .second, .val (.double y2), .second, .unset] [] := by first | (simp [entryFrame, mkF, argsToLocals, Value.category]; done) | rfl
def Q2_5eq (Z : State) (y0 : Addr) (y1 : UInt64) (y2 : UInt64) (h0 : Heap) (n0 : Nat) (v : Option Value) (h : Heap) (L : List Loc) : Prop := v = some (.int (1 : Int32)) ∧ Fr n0 L ∧ h = h0
set_option maxRecDepth 65536 in
set_option maxHeartbeats 40000000 in
theorem rm2_5eq (l : Launch) (Z : State) (a0 : Array Value) (hw : ∀ d ∈ tables_1, d.before a0 Z = true) (ws : List Jvm.Cond) (y0 : Addr) (y1 : UInt64) (y2 : UInt64) (h0 : Heap) (n0 : Nat) (Z0 : n0 ≤ h0.size) (F_o : Fld Z h0 y0 "java/lang/Enum" "ordinal" "I" (.int (5 : Int32))) (E_y0 : Exa Z h0 y0 "com/example/reckonmill/reckonmill/lib/model/tree/Comparison") (hcmp : FP.dcmp y1 y2 = some .eq) :
    MetFree l mn2 (head1 (Jvm.Cond.code mn2 prog_17_method_6_code 6 (some .boolean) :: ws) ({ frames := 1, cells := 0, slots := 0, locals := 12 } : Room)) (fun a U => a = #[(.ref y0), (.double y1), (.double y2)] ∧ Z.Warmed39 U.vm ∧ U.heap = h0) (fun _ _ _ _ _ => True) (fun _ U o U' => ∃ v L, o = .returned v ∧ Q2_5eq Z y0 y1 y2 h0 n0 v U'.heap L ∧ FrameEnd U o U' L ({ frames := 1, cells := 0, slots := 0, locals := 12 } : Room).cells ({ frames := 1, cells := 0, slots := 0, locals := 12 } : Room).slots) := by
  refine MetFree.of_bodySF (plainFor_of_name pn_0) hisR ?_
  intro p e s m args below meth c s₁ Bd hml0 hP hK
  obtain ⟨rfl, hZ, hh⟩ := hP
  have hx := Bd.exec
  have hby := Bd.bytes
  have hml : c.maxLocals = 6 := hml0
  have hown : s.vm.findClass "com/example/reckonmill/reckonmill/lib/model/tree/Comparison" = some m.cls := findClass_of_methodNamed Bd.named
  have hnm := (name_of_methodNamed Bd.named Bd.method).1
  have X0 : Stand p l e ({ frames := 1, cells := 0, slots := 0, locals := 12 } : Room) s m #[(.ref y0), (.double y1), (.double y2)] below meth c s₁ [] 0 0 := Stand.of_body Bd
  have e0 : s₁.heap = h0 := by rw [← hh, Bd.state]; rfl
  have N0 := Fr.nil n0
  show own_Ends p e below s (Q2_5eq Z y0 y1 y2 h0 n0) _ _ s₁ _
  rw [ef_rm2_5eq m y0 y1 y2]
  refine own_go (T' := s₁) (f' := (mkF m 1 #[.val (.ref y0), .val (.double y1), .second, .val (.double y2), .second, .unset] [(.ref y0)])) (fun _ k => XS.aloadN X0.here hx rfl (hb hby d2_0) rfl rfl k) ?_
  obtain ⟨cq1, kq1, q1a, q1b, q1c⟩ := isOf hZ e0 E_y0
  obtain ⟨_, _, ⟨T1, L1, k1, n1⟩, -, X1, ⟨Lc1, hQ1, l1, y1, z1⟩, st1⟩ := X0.virtualBackUp hx (owner := "java/lang/Enum") (x := mn1) (y := mn0) hown (mvT hZ (ow13 hw)) (mvT hZ (ow14 hw)) (mvT hZ (ow15 hw)) (by decide) (mvT hZ (ow17 hw)) (mvT hZ (ow16 hw)) (backOf (W := 0) (rm3 l Z a0 hw [] y0 (5 : Int32) h0 n0 Z0 F_o) hZ (ow19 hw) (ow18 hw) (by decide) (by decide)) q1a q1c (g := (mkF m 1 #[.val (.ref y0), .val (.double y1), .second, .val (.double y2), .second, .unset] [(.ref y0)])) rfl (by rw [hml]; rfl) (Steps.refl _) (argsL := []) (rest := []) (lenOf pd0 rfl) rfl (by show 2 * 0 + _ ≤ _; exact Nat.le_of_eq rfl) (hb hby d2_1) (fun _ _ => ⟨rfl, e0, (by decide : 0 + 0 ≤ _), (by decide : 0 + 0 ≤ _)⟩)
  dsimp only [Pt.U, Pt.locs, Pt.cells, Pt.slots] at X1 l1 y1 z1 st1 hQ1
  subst l1 y1 z1
  obtain ⟨rfl, N1q, hh1⟩ := hQ1
  have N1 := Fr.app N0 N1q
  refine own_go (T' := T1) (f' := (mkF m 126 #[.val (.ref y0), .val (.double y1), .second, .val (.double y2), .second, .unset] [])) (fun _ k => st1.trans (XS.tswOut X1.here hx rfl (pc0 := 4) (pc' := 120) rfl (hb hby d2_4) rfl (by decide) (by decide) (by decide) (own_dloadN X1.here hx rfl (hb hby d2_120) rfl (own_dloadN X1.here hx rfl (hb hby d2_121) rfl (own_dcmp (o := .eq) X1.here hx rfl (hb hby d2_122) rfl hcmp (XS.ifNo X1.here hx rfl (hb hby d2_123) rfl ((if0 _ _).trans (flt (by decide : ¬ ((0 : Int32) < (0 : Int32)))).1) k)))))) ?_
  refine own_go (T' := T1) (f' := (mkF m 135 #[.val (.ref y0), .val (.double y1), .second, .val (.double y2), .second, .val (.int (1 : Int32))] [(.int (1 : Int32))])) (fun _ k => XS.iconst X1.here hx rfl (hb hby d2_126) (XS.goto X1.here hx rfl (pc0 := 127) (pc' := 131) rfl (hb hby d2_127) (by decide) (by decide) (XS.istore X1.here hx rfl (hb hby d2_131) rfl (l' := #[.val (.ref y0), .val (.double y1), .second, .val (.double y2), .second, .val (.int (1 : Int32))]) rfl (XS.iload X1.here hx rfl (hb hby d2_133) rfl k)))) ?_
  refine own_ret X1 (v := some (.int (1 : Int32))) (fun h => by rw [Bd.returns] at h; cases h) Bd.notSynchronized (fun fs hr => retN X1 hx (t := .boolean) Bd.returns (by simp) (hb hby d2_135) hr) ?_ (by decide) (by decide)
  show Q2_5eq Z y0 y1 y2 h0 n0 _ T1.heap _
  exact ⟨rfl, N1, hh1⟩
theorem ef_rm2_5gt (m : MethodId) (y0 : Addr) (y1 : UInt64) (y2 : UInt64) : entryFrame m #[(.ref y0), (.double y1), (.double y2)] 6 = mkF m 0 #[.val (.ref y0), .val (.double y1), .second, .val (.double y2), .second, .unset] [] := by first | (simp [entryFrame, mkF, argsToLocals, Value.category]; done) | rfl
def Q2_5gt (Z : State) (y0 : Addr) (y1 : UInt64) (y2 : UInt64) (h0 : Heap) (n0 : Nat) (v : Option Value) (h : Heap) (L : List Loc) : Prop := v = some (.int (1 : Int32)) ∧ Fr n0 L ∧ h = h0
set_option maxRecDepth 65536 in
set_option maxHeartbeats 40000000 in
theorem rm2_5gt (l : Launch) (Z : State) (a0 : Array Value) (hw : ∀ d ∈ tables_1, d.before a0 Z = true) (ws : List Jvm.Cond) (y0 : Addr) (y1 : UInt64) (y2 : UInt64) (h0 : Heap) (n0 : Nat) (Z0 : n0 ≤ h0.size) (F_o : Fld Z h0 y0 "java/lang/Enum" "ordinal" "I" (.int (5 : Int32))) (E_y0 : Exa Z h0 y0 "com/example/reckonmill/reckonmill/lib/model/tree/Comparison") (hcmp : FP.dcmp y1 y2 = some .gt) :
    MetFree l mn2 (head1 (Jvm.Cond.code mn2 prog_17_method_6_code 6 (some .boolean) :: ws) ({ frames := 1, cells := 0, slots := 0, locals := 12 } : Room)) (fun a U => a = #[(.ref y0), (.double y1), (.double y2)] ∧ Z.Warmed39 U.vm ∧ U.heap = h0) (fun _ _ _ _ _ => True) (fun _ U o U' => ∃ v L, o = .returned v ∧ Q2_5gt Z y0 y1 y2 h0 n0 v U'.heap L ∧ FrameEnd U o U' L ({ frames := 1, cells := 0, slots := 0, locals := 12 } : Room).cells ({ frames := 1, cells := 0, slots := 0, locals := 12 } : Room).slots) := by
  refine MetFree.of_bodySF (plainFor_of_name pn_0) hisR ?_
  intro p e s m args below meth c s₁ Bd hml0 hP hK
  obtain ⟨rfl, hZ, hh⟩ := hP
  have hx := Bd.exec
  have hby := Bd.bytes
  have hml : c.maxLocals = 6 := hml0
  have hown : s.vm.findClass "com/example/reckonmill/reckonmill/lib/model/tree/Comparison" = some m.cls := findClass_of_methodNamed Bd.named
  have hnm := (name_of_methodNamed Bd.named Bd.method).1
  have X0 : Stand p l e ({ frames := 1, cells := 0, slots := 0, locals := 12 } : Room) s m #[(.ref y0), (.double y1), (.double y2)] below meth c s₁ [] 0 0 := Stand.of_body Bd
  have e0 : s₁.heap = h0 := by rw [← hh, Bd.state]; rfl
  have N0 := Fr.nil n0
  show own_Ends p e below s (Q2_5gt Z y0 y1 y2 h0 n0) _ _ s₁ _
  rw [ef_rm2_5gt m y0 y1 y2]
  refine own_go (T' := s₁) (f' := (mkF m 1 #[.val (.ref y0), .val (.double y1), .second, .val (.double y2), .second, .unset] [(.ref y0)])) (fun _ k => XS.aloadN X0.here hx rfl (hb hby d2_0) rfl rfl k) ?_
  obtain ⟨cq1, kq1, q1a, q1b, q1c⟩ := isOf hZ e0 E_y0
  obtain ⟨_, _, ⟨T1, L1, k1, n1⟩, -, X1, ⟨Lc1, hQ1, l1, y1, z1⟩, st1⟩ := X0.virtualBackUp hx (owner := "java/lang/Enum") (x := mn1) (y := mn0) hown (mvT hZ (ow13 hw)) (mvT hZ (ow14 hw)) (mvT hZ (ow15 hw)) (by decide) (mvT hZ (ow17 hw)) (mvT hZ (ow16 hw)) (backOf (W := 0) (rm3 l Z a0 hw [] y0 (5 : Int32) h0 n0 Z0 F_o) hZ (ow19 hw) (ow18 hw) (by decide) (by decide)) q1a q1c (g := (mkF m 1 #[.val (.ref y0), .val (.double y1), .second, .val (.double y2), .second, .unset] [(.ref y0)])) rfl (by rw [hml]; rfl) (Steps.refl _) (argsL := []) (rest := []) (lenOf pd0 rfl) rfl (by show 2 * 0 + _ ≤ _; exact Nat.le_of_eq rfl) (hb hby d2_1) (fun _ _ => ⟨rfl, e0, (by decide : 0 + 0 ≤ _), (by decide : 0 + 0 ≤ _)⟩)
  dsimp only [Pt.U, Pt.locs, Pt.cells, Pt.slots] at X1 l1 y1 z1 st1 hQ1
  subst l1 y1 z1
  obtain ⟨rfl, N1q, hh1⟩ := hQ1
  have N1 := Fr.app N0 N1q
  refine own_go (T' := T1) (f' := (mkF m 126 #[.val (.ref y0), .val (.double y1), .second, .val (.double y2), .second, .unset] [])) (fun _ k => st1.trans (XS.tswOut X1.here hx rfl (pc0 := 4) (pc' := 120) rfl (hb hby d2_4) rfl (by decide) (by decide) (by decide) (own_dloadN X1.here hx rfl (hb hby d2_120) rfl (own_dloadN X1.here hx rfl (hb hby d2_121) rfl (own_dcmp (o := .gt) X1.here hx rfl (hb hby d2_122) rfl hcmp (XS.ifNo X1.here hx rfl (hb hby d2_123) rfl ((if0 _ _).trans (flt (by decide : ¬ ((1 : Int32) < (0 : Int32)))).1) k)))))) ?_
  refine own_go (T' := T1) (f' := (mkF m 135 #[.val (.ref y0), .val (.double y1), .second, .val (.double y2), .second, .val (.int (1 : Int32))] [(.int (1 : Int32))])) (fun _ k => XS.iconst X1.here hx rfl (hb hby d2_126) (XS.goto X1.here hx rfl (pc0 := 127) (pc' := 131) rfl (hb hby d2_127) (by decide) (by decide) (XS.istore X1.here hx rfl (hb hby d2_131) rfl (l' := #[.val (.ref y0), .val (.double y1), .second, .val (.double y2), .second, .val (.int (1 : Int32))]) rfl (XS.iload X1.here hx rfl (hb hby d2_133) rfl k)))) ?_
  refine own_ret X1 (v := some (.int (1 : Int32))) (fun h => by rw [Bd.returns] at h; cases h) Bd.notSynchronized (fun fs hr => retN X1 hx (t := .boolean) Bd.returns (by simp) (hb hby d2_135) hr) ?_ (by decide) (by decide)
  show Q2_5gt Z y0 y1 y2 h0 n0 _ T1.heap _
  exact ⟨rfl, N1, hh1⟩
theorem d1_0 : decode method_2_code 0 = .ok (.iload_n 0, 1) := by decide +kernel
theorem d1_1 : decode method_2_code 1 = .ok (.ifCond .ne 7, 3) := by decide +kernel
theorem d1_4 : decode method_2_code 4 = .ok (.getstatic 7, 3) := by decide +kernel
theorem d1_7 : decode method_2_code 7 = .ok (.areturn, 1) := by decide +kernel
theorem pn_1 : plainName "com/example/reckonmill/reckonmill/lib/model/tree/ComparisonHoldsPinLaw" = true := by first | (simp [plainName, overriddenIn]; done) | decide +kernel
theorem ef_rm1_0 (m : MethodId)  : entryFrame m #[(.int (0 : Int32))] 1 = mkF m 0 #[.val (.int (0 : Int32))] [] := by first | (simp [entryFrame, mkF, argsToLocals, Value.category]; done) | rfl
def Q1_0 (Z : State) (wEQUAL : Addr) (wNOT_EQUAL : Addr) (wLESS : Addr) (wLESS_OR_EQUAL : Addr) (wGREATER : Addr) (wGREATER_OR_EQUAL : Addr) (h0 : Heap) (n0 : Nat) (v : Option Value) (h : Heap) (L : List Loc) : Prop := v = some (.ref wEQUAL) ∧ Fr n0 L ∧ h = h0
set_option maxRecDepth 65536 in
set_option maxHeartbeats 40000000 in
theorem rm1_0 (l : Launch) (Z : State) (a0 : Array Value) (hw : ∀ d ∈ tables_1, d.before a0 Z = true) (ws : List Jvm.Cond) (wEQUAL : Addr) (wNOT_EQUAL : Addr) (wLESS : Addr) (wLESS_OR_EQUAL : Addr) (wGREATER : Addr) (wGREATER_OR_EQUAL : Addr) (h0 : Heap) (n0 : Nat) (Z0 : n0 ≤ h0.size) (S_EQUAL : Sta Z h0 "com/example/reckonmill/reckonmill/lib/model/tree/Comparison" "EQUAL" "Lcom/example/reckonmill/reckonmill/lib/model/tree/Comparison;" (.ref wEQUAL)) (S_NOT_EQUAL : Sta Z h0 "com/example/reckonmill/reckonmill/lib/model/tree/Comparison" "NOT_EQUAL" "Lcom/example/reckonmill/reckonmill/lib/model/tree/Comparison;" (.ref wNOT_EQUAL)) (S_LESS : Sta Z h0 "com/example/reckonmill/reckonmill/lib/model/tree/Comparison" "LESS" "Lcom/example/reckonmill/reckonmill/lib/model/tree/Comparison;" (.ref wLESS)) (S_LESS_OR_EQUAL : Sta Z h0 "com/example/reckonmill/reckonmill/lib/model/tree/Comparison" "LESS_OR_EQUAL" "Lcom/example/reckonmill/reckonmill/lib/model/tree/Comparison;" (.ref wLESS_OR_EQUAL)) (S_GREATER : Sta Z h0 "com/example/reckonmill/reckonmill/lib/model/tree/Comparison" "GREATER" "Lcom/example/reckonmill/reckonmill/lib/model/tree/Comparison;" (.ref wGREATER)) (S_GREATER_OR_EQUAL : Sta Z h0 "com/example/reckonmill/reckonmill/lib/model/tree/Comparison" "GREATER_OR_EQUAL" "Lcom/example/reckonmill/reckonmill/lib/model/tree/Comparison;" (.ref wGREATER_OR_EQUAL)) :
    MetFree l mn3 (head1 (Jvm.Cond.code mn3 method_2_code 1 (some (.object "com/example/reckonmill/reckonmill/lib/model/tree/Comparison")) :: ws) ({ frames := 0, cells := 0, slots := 0, locals := 0 } : Room)) (fun a U => a = #[(.int (0 : Int32))] ∧ Z.Warmed39 U.vm ∧ U.heap = h0) (fun _ _ _ _ _ => True) (fun _ U o U' => ∃ v L, o = .returned v ∧ Q1_0 Z wEQUAL wNOT_EQUAL wLESS wLESS_OR_EQUAL wGREATER wGREATER_OR_EQUAL h0 n0 v U'.heap L ∧ FrameEnd U o U' L ({ frames := 0, cells := 0, slots := 0, locals := 0 } : Room).cells ({ frames := 0, cells := 0, slots := 0, locals := 0 } : Room).slots) := by
  refine MetFree.of_bodySF (plainFor_of_name pn_1) hisR ?_
  intro p e s m args below meth c s₁ Bd hml0 hP hK
  obtain ⟨rfl, hZ, hh⟩ := hP
  have hx := Bd.exec
  have hby := Bd.bytes
  have hml : c.maxLocals = 1 := hml0
  have hown : s.vm.findClass "com/example/reckonmill/reckonmill/lib/model/tree/ComparisonHoldsPinLaw" = some m.cls := findClass_of_methodNamed Bd.named
  have hnm := (name_of_methodNamed Bd.named Bd.method).1
  have X0 : Stand p l e ({ frames := 0, cells := 0, slots := 0, locals := 0 } : Room) s m #[(.int (0 : Int32))] below meth c s₁ [] 0 0 := Stand.of_body Bd
  have e0 : s₁.heap = h0 := by rw [← hh, Bd.state]; rfl
  have N0 := Fr.nil n0
  show own_Ends p e below s (Q1_0 Z wEQUAL wNOT_EQUAL wLESS wLESS_OR_EQUAL wGREATER wGREATER_OR_EQUAL h0 n0) _ _ s₁ _
  rw [ef_rm1_0 m ]
  refine own_go (T' := s₁) (f' := (mkF m 4 #[.val (.int (0 : Int32))] [])) (fun _ k => XS.iloadN X0.here hx rfl (hb hby d1_0) rfl (XS.ifNo X0.here hx rfl (hb hby d1_1) rfl ((if0 _ _).trans (teq (by decide : ((0 : Int32) = (0 : Int32)))).2) k)) ?_
  obtain ⟨T1, X1, e1, st1⟩ := getS2 X0 hx hZ hown (host := "") (Or.inl (ow5 hw)) Via.refl e0 S_EQUAL (g := (mkF m 4 #[.val (.int (0 : Int32))] [])) rfl (hb hby d1_4)
  refine own_go (T' := T1) (f' := (mkF m 7 #[.val (.int (0 : Int32))] [(.ref wEQUAL)])) (fun _ k => st1 _ k) ?_
  refine own_ret X1 (v := some (.ref wEQUAL)) (fun h => by rw [Bd.returns] at h; cases h) Bd.notSynchronized (fun fs hr => own_retA X1 hx Bd.returns rfl rfl (hb hby d1_7) hr) ?_ (by decide) (by decide)
  show Q1_0 Z wEQUAL wNOT_EQUAL wLESS wLESS_OR_EQUAL wGREATER wGREATER_OR_EQUAL h0 n0 _ T1.heap _
  exact ⟨rfl, N0, e1⟩
theorem d1_8 : decode method_2_code 8 = .ok (.iload_n 0, 1) := by decide +kernel
theorem d1_9 : decode method_2_code 9 = .ok (.iconst 1, 1) := by decide +kernel
theorem d1_10 : decode method_2_code 10 = .ok (.if_icmp .ne 7, 3) := by decide +kernel
theorem d1_13 : decode method_2_code 13 = .ok (.getstatic 13, 3) := by decide +kernel
theorem d1_16 : decode method_2_code 16 = .ok (.areturn, 1) := by decide +kernel
theorem ef_rm1_1 (m : MethodId)  : entryFrame m #[(.int (1 : Int32))] 1 = mkF m 0 #[.val (.int (1 : Int32))] [] := by first | (simp [entryFrame, mkF, argsToLocals, Value.category]; done) | rfl
def Q1_1 (Z : State) (wEQUAL : Addr) (wNOT_EQUAL : Addr) (wLESS : Addr) (wLESS_OR_EQUAL : Addr) (wGREATER : Addr) (wGREATER_OR_EQUAL : Addr) (h0 : Heap) (n0 : Nat) (v : Option Value) (h : Heap) (L : List Loc) : Prop := v = some (.ref wNOT_EQUAL) ∧ Fr n0 L ∧ h = h0
set_option maxRecDepth 65536 in
set_option maxHeartbeats 40000000 in
theorem rm1_1 (l : Launch) (Z : State) (a0 : Array Value) (hw : ∀ d ∈ tables_1, d.before a0 Z = true) (ws : List Jvm.Cond) (wEQUAL : Addr) (wNOT_EQUAL : Addr) (wLESS : Addr) (wLESS_OR_EQUAL : Addr) (wGREATER : Addr) (wGREATER_OR_EQUAL : Addr) (h0 : Heap) (n0 : Nat) (Z0 : n0 ≤ h0.size) (S_EQUAL : Sta Z h0 "com/example/reckonmill/reckonmill/lib/model/tree/Comparison" "EQUAL" "Lcom/example/reckonmill/reckonmill/lib/model/tree/Comparison;" (.ref wEQUAL)) (S_NOT_EQUAL : Sta Z h0 "com/example/reckonmill/reckonmill/lib/model/tree/Comparison" "NOT_EQUAL" "Lcom/example/reckonmill/reckonmill/lib/model/tree/Comparison;" (.ref wNOT_EQUAL)) (S_LESS : Sta Z h0 "com/example/reckonmill/reckonmill/lib/model/tree/Comparison" "LESS" "Lcom/example/reckonmill/reckonmill/lib/model/tree/Comparison;" (.ref wLESS)) (S_LESS_OR_EQUAL : Sta Z h0 "com/example/reckonmill/reckonmill/lib/model/tree/Comparison" "LESS_OR_EQUAL" "Lcom/example/reckonmill/reckonmill/lib/model/tree/Comparison;" (.ref wLESS_OR_EQUAL)) (S_GREATER : Sta Z h0 "com/example/reckonmill/reckonmill/lib/model/tree/Comparison" "GREATER" "Lcom/example/reckonmill/reckonmill/lib/model/tree/Comparison;" (.ref wGREATER)) (S_GREATER_OR_EQUAL : Sta Z h0 "com/example/reckonmill/reckonmill/lib/model/tree/Comparison" "GREATER_OR_EQUAL" "Lcom/example/reckonmill/reckonmill/lib/model/tree/Comparison;" (.ref wGREATER_OR_EQUAL)) :
    MetFree l mn3 (head1 (Jvm.Cond.code mn3 method_2_code 1 (some (.object "com/example/reckonmill/reckonmill/lib/model/tree/Comparison")) :: ws) ({ frames := 0, cells := 0, slots := 0, locals := 0 } : Room)) (fun a U => a = #[(.int (1 : Int32))] ∧ Z.Warmed39 U.vm ∧ U.heap = h0) (fun _ _ _ _ _ => True) (fun _ U o U' => ∃ v L, o = .returned v ∧ Q1_1 Z wEQUAL wNOT_EQUAL wLESS wLESS_OR_EQUAL wGREATER wGREATER_OR_EQUAL h0 n0 v U'.heap L ∧ FrameEnd U o U' L ({ frames := 0, cells := 0, slots := 0, locals := 0 } : Room).cells ({ frames := 0, cells := 0, slots := 0, locals := 0 } : Room).slots) := by
  refine MetFree.of_bodySF (plainFor_of_name pn_1) hisR ?_
  intro p e s m args below meth c s₁ Bd hml0 hP hK
  obtain ⟨rfl, hZ, hh⟩ := hP
  have hx := Bd.exec
  have hby := Bd.bytes
  have hml : c.maxLocals = 1 := hml0
  have hown : s.vm.findClass "com/example/reckonmill/reckonmill/lib/model/tree/ComparisonHoldsPinLaw" = some m.cls := findClass_of_methodNamed Bd.named
  have hnm := (name_of_methodNamed Bd.named Bd.method).1
  have X0 : Stand p l e ({ frames := 0, cells := 0, slots := 0, locals := 0 } : Room) s m #[(.int (1 : Int32))] below meth c s₁ [] 0 0 := Stand.of_body Bd
  have e0 : s₁.heap = h0 := by rw [← hh, Bd.state]; rfl
  have N0 := Fr.nil n0
  show own_Ends p e below s (Q1_1 Z wEQUAL wNOT_EQUAL wLESS wLESS_OR_EQUAL wGREATER wGREATER_OR_EQUAL h0 n0) _ _ s₁ _
  rw [ef_rm1_1 m ]
  refine own_go (T' := s₁) (f' := (mkF m 13 #[.val (.int (1 : Int32))] [])) (fun _ k => XS.iloadN X0.here hx rfl (hb hby d1_0) rfl (XS.ifYes X0.here hx rfl (pc0 := 1) (pc' := 8) rfl (hb hby d1_1) rfl ((if0 _ _).trans (feq (by decide : ¬ ((1 : Int32) = (0 : Int32)))).2) (by decide) (by decide) (XS.iloadN X0.here hx rfl (hb hby d1_8) rfl (XS.iconst X0.here hx rfl (hb hby d1_9) (XS.icmpNo X0.here hx rfl (hb hby d1_10) rfl (teq (by decide : ((1 : Int32) = (1 : Int32)))).2 k))))) ?_
  obtain ⟨T1, X1, e1, st1⟩ := getS2 X0 hx hZ hown (host := "") (Or.inl (ow25 hw)) Via.refl e0 S_NOT_EQUAL (g := (mkF m 13 #[.val (.int (1 : Int32))] [])) rfl (hb hby d1_13)
  refine own_go (T' := T1) (f' := (mkF m 16 #[.val (.int (1 : Int32))] [(.ref wNOT_EQUAL)])) (fun _ k => st1 _ k) ?_
  refine own_ret X1 (v := some (.ref wNOT_EQUAL)) (fun h => by rw [Bd.returns] at h; cases h) Bd.notSynchronized (fun fs hr => own_retA X1 hx Bd.returns rfl rfl (hb hby d1_16) hr) ?_ (by decide) (by decide)
  show Q1_1 Z wEQUAL wNOT_EQUAL wLESS wLESS_OR_EQUAL wGREATER wGREATER_OR_EQUAL h0 n0 _ T1.heap _
  exact ⟨rfl, N0, e1⟩
theorem d1_17 : decode method_2_code 17 = .ok (.iload_n 0, 1) := by decide +kernel
theorem d1_18 : decode method_2_code 18 = .ok (.iconst 2, 1) := by decide +kernel
theorem d1_19 : decode method_2_code 19 = .ok (.if_icmp .ne 7, 3) := by decide +kernel
theorem d1_22 : decode method_2_code 22 = .ok (.getstatic 16, 3) := by decide +kernel
theorem d1_25 : decode method_2_code 25 = .ok (.areturn, 1) := by decide +kernel
theorem ef_rm1_2 (m : MethodId)  : entryFrame m #[(.int (2 : Int32))] 1 = mkF m 0 #[.val (.int (2 : Int32))] [] := by first | (simp [entryFrame, mkF, argsToLocals, Value.category]; done) | rfl
def Q1_2 (Z : State) (wEQUAL : Addr) (wNOT_EQUAL : Addr) (wLESS : Addr) (wLESS_OR_EQUAL : Addr) (wGREATER : Addr) (wGREATER_OR_EQUAL : Addr) (h0 : Heap) (n0 : Nat) (v : Option Value) (h : Heap) (L : List Loc) : Prop := v = some (.ref wLESS) ∧ Fr n0 L ∧ h = h0
set_option maxRecDepth 65536 in
set_option maxHeartbeats 40000000 in
theorem rm1_2 (l : Launch) (Z : State) (a0 : Array Value) (hw : ∀ d ∈ tables_1, d.before a0 Z = true) (ws : List Jvm.Cond) (wEQUAL : Addr) (wNOT_EQUAL : Addr) (wLESS : Addr) (wLESS_OR_EQUAL : Addr) (wGREATER : Addr) (wGREATER_OR_EQUAL : Addr) (h0 : Heap) (n0 : Nat) (Z0 : n0 ≤ h0.size) (S_EQUAL : Sta Z h0 "com/example/reckonmill/reckonmill/lib/model/tree/Comparison" "EQUAL" "Lcom/example/reckonmill/reckonmill/lib/model/tree/Comparison;" (.ref wEQUAL)) (S_NOT_EQUAL : Sta Z h0 "com/example/reckonmill/reckonmill/lib/model/tree/Comparison" "NOT_EQUAL" "Lcom/example/reckonmill/reckonmill/lib/model/tree/Comparison;" (.ref wNOT_EQUAL)) (S_LESS : Sta Z h0 "com/example/reckonmill/reckonmill/lib/model/tree/Comparison" "LESS" "Lcom/example/reckonmill/reckonmill/lib/model/tree/Comparison;" (.ref wLESS)) (S_LESS_OR_EQUAL : Sta Z h0 "com/example/reckonmill/reckonmill/lib/model/tree/Comparison" "LESS_OR_EQUAL" "Lcom/example/reckonmill/reckonmill/lib/model/tree/Comparison;" (.ref wLESS_OR_EQUAL)) (S_GREATER : Sta Z h0 "com/example/reckonmill/reckonmill/lib/model/tree/Comparison" "GREATER" "Lcom/example/reckonmill/reckonmill/lib/model/tree/Comparison;" (.ref wGREATER)) (S_GREATER_OR_EQUAL : Sta Z h0 "com/example/reckonmill/reckonmill/lib/model/tree/Comparison" "GREATER_OR_EQUAL" "Lcom/example/reckonmill/reckonmill/lib/model/tree/Comparison;" (.ref wGREATER_OR_EQUAL)) :
    MetFree l mn3 (head1 (Jvm.Cond.code mn3 method_2_code 1 (some (.object "com/example/reckonmill/reckonmill/lib/model/tree/Comparison")) :: ws) ({ frames := 0, cells := 0, slots := 0, locals := 0 } : Room)) (fun a U => a = #[(.int (2 : Int32))] ∧ Z.Warmed39 U.vm ∧ U.heap = h0) (fun _ _ _ _ _ => True) (fun _ U o U' => ∃ v L, o = .returned v ∧ Q1_2 Z wEQUAL wNOT_EQUAL wLESS wLESS_OR_EQUAL wGREATER wGREATER_OR_EQUAL h0 n0 v U'.heap L ∧ FrameEnd U o U' L ({ frames := 0, cells := 0, slots := 0, locals := 0 } : Room).cells ({ frames := 0, cells := 0, slots := 0, locals := 0 } : Room).slots) := by
  refine MetFree.of_bodySF (plainFor_of_name pn_1) hisR ?_
  intro p e s m args below meth c s₁ Bd hml0 hP hK
  obtain ⟨rfl, hZ, hh⟩ := hP
  have hx := Bd.exec
  have hby := Bd.bytes
  have hml : c.maxLocals = 1 := hml0
  have hown : s.vm.findClass "com/example/reckonmill/reckonmill/lib/model/tree/ComparisonHoldsPinLaw" = some m.cls := findClass_of_methodNamed Bd.named
  have hnm := (name_of_methodNamed Bd.named Bd.method).1
  have X0 : Stand p l e ({ frames := 0, cells := 0, slots := 0, locals := 0 } : Room) s m #[(.int (2 : Int32))] below meth c s₁ [] 0 0 := Stand.of_body Bd
  have e0 : s₁.heap = h0 := by rw [← hh, Bd.state]; rfl
  have N0 := Fr.nil n0
  show own_Ends p e below s (Q1_2 Z wEQUAL wNOT_EQUAL wLESS wLESS_OR_EQUAL wGREATER wGREATER_OR_EQUAL h0 n0) _ _ s₁ _
  rw [ef_rm1_2 m ]
  refine own_go (T' := s₁) (f' := (mkF m 18 #[.val (.int (2 : Int32))] [(.int (2 : Int32))])) (fun _ k => XS.iloadN X0.here hx rfl (hb hby d1_0) rfl (XS.ifYes X0.here hx rfl (pc0 := 1) (pc' := 8) rfl (hb hby d1_1) rfl ((if0 _ _).trans (feq (by decide : ¬ ((2 : Int32) = (0 : Int32)))).2) (by decide) (by decide) (XS.iloadN X0.here hx rfl (hb hby d1_8) rfl (XS.iconst X0.here hx rfl (hb hby d1_9) (XS.icmpYes X0.here hx rfl (pc0 := 10) (pc' := 17) rfl (hb hby d1_10) rfl (feq (by decide : ¬ ((2 : Int32) = (1 : Int32)))).2 (by decide) (by decide) (XS.iloadN X0.here hx rfl (hb hby d1_17) rfl k)))))) ?_
  refine own_go (T' := s₁) (f' := (mkF m 22 #[.val (.int (2 : Int32))] [])) (fun _ k => XS.iconst X0.here hx rfl (hb hby d1_18) (XS.icmpNo X0.here hx rfl (hb hby d1_19) rfl (teq (by decide : ((2 : Int32) = (2 : Int32)))).2 k)) ?_
  obtain ⟨T1, X1, e1, st1⟩ := getS2 X0 hx hZ hown (host := "") (Or.inl (ow33 hw)) Via.refl e0 S_LESS (g := (mkF m 22 #[.val (.int (2 : Int32))] [])) rfl (hb hby d1_22)
  refine own_go (T' := T1) (f' := (mkF m 25 #[.val (.int (2 : Int32))] [(.ref wLESS)])) (fun _ k => st1 _ k) ?_
  refine own_ret X1 (v := some (.ref wLESS)) (fun h => by rw [Bd.returns] at h; cases h) Bd.notSynchronized (fun fs hr => own_retA X1 hx Bd.returns rfl rfl (hb hby d1_25) hr) ?_ (by decide) (by decide)
  show Q1_2 Z wEQUAL wNOT_EQUAL wLESS wLESS_OR_EQUAL wGREATER wGREATER_OR_EQUAL h0 n0 _ T1.heap _
  exact ⟨rfl, N0, e1⟩
theorem d1_26 : decode method_2_code 26 = .ok (.iload_n 0, 1) := by decide +kernel
theorem d1_27 : decode method_2_code 27 = .ok (.iconst 3, 1) := by decide +kernel
theorem d1_28 : decode method_2_code 28 = .ok (.if_icmp .ne 7, 3) := by decide +kernel
theorem d1_31 : decode method_2_code 31 = .ok (.getstatic 19, 3) := by decide +kernel
theorem d1_34 : decode method_2_code 34 = .ok (.areturn, 1) := by decide +kernel
theorem ef_rm1_3 (m : MethodId)  : entryFrame m #[(.int (3 : Int32))] 1 = mkF m 0 #[.val (.int (3 : Int32))] [] := by first | (simp [entryFrame, mkF, argsToLocals, Value.category]; done) | rfl
def Q1_3 (Z : State) (wEQUAL : Addr) (wNOT_EQUAL : Addr) (wLESS : Addr) (wLESS_OR_EQUAL : Addr) (wGREATER : Addr) (wGREATER_OR_EQUAL : Addr) (h0 : Heap) (n0 : Nat) (v : Option Value) (h : Heap) (L : List Loc) : Prop := v = some (.ref wLESS_OR_EQUAL) ∧ Fr n0 L ∧ h = h0
set_option maxRecDepth 65536 in
set_option maxHeartbeats 40000000 in
theorem rm1_3 (l : Launch) (Z : State) (a0 : Array Value) (hw : ∀ d ∈ tables_1, d.before a0 Z = true) (ws : List Jvm.Cond) (wEQUAL : Addr) (wNOT_EQUAL : Addr) (wLESS : Addr) (wLESS_OR_EQUAL : Addr) (wGREATER : Addr) (wGREATER_OR_EQUAL : Addr) (h0 : Heap) (n0 : Nat) (Z0 : n0 ≤ h0.size) (S_EQUAL : Sta Z h0 "com/example/reckonmill/reckonmill/lib/model/tree/Comparison" "EQUAL" "Lcom/example/reckonmill/reckonmill/lib/model/tree/Comparison;" (.ref wEQUAL)) (S_NOT_EQUAL : Sta Z h0 "com/example/reckonmill/reckonmill/lib/model/tree/Comparison" "NOT_EQUAL" "Lcom/example/reckonmill/reckonmill/lib/model/tree/Comparison;" (.ref wNOT_EQUAL)) (S_LESS : Sta Z h0 "com/example/reckonmill/reckonmill/lib/model/tree/Comparison" "LESS" "Lcom/example/reckonmill/reckonmill/lib/model/tree/Comparison;" (.ref wLESS)) (S_LESS_OR_EQUAL : Sta Z h0 "com/example/reckonmill/reckonmill/lib/model/tree/Comparison" "LESS_OR_EQUAL" "Lcom/example/reckonmill/reckonmill/lib/model/tree/Comparison;" (.ref wLESS_OR_EQUAL)) (S_GREATER : Sta Z h0 "com/example/reckonmill/reckonmill/lib/model/tree/Comparison" "GREATER" "Lcom/example/reckonmill/reckonmill/lib/model/tree/Comparison;" (.ref wGREATER)) (S_GREATER_OR_EQUAL : Sta Z h0 "com/example/reckonmill/reckonmill/lib/model/tree/Comparison" "GREATER_OR_EQUAL" "Lcom/example/reckonmill/reckonmill/lib/model/tree/Comparison;" (.ref wGREATER_OR_EQUAL)) :
    MetFree l mn3 (head1 (Jvm.Cond.code mn3 method_2_code 1 (some (.object "com/example/reckonmill/reckonmill/lib/model/tree/Comparison")) :: ws) ({ frames := 0, cells := 0, slots := 0, locals := 0 } : Room)) (fun a U => a = #[(.int (3 : Int32))] ∧ Z.Warmed39 U.vm ∧ U.heap = h0) (fun _ _ _ _ _ => True) (fun _ U o U' => ∃ v L, o = .returned v ∧ Q1_3 Z wEQUAL wNOT_EQUAL wLESS wLESS_OR_EQUAL wGREATER wGREATER_OR_EQUAL h0 n0 v U'.heap L ∧ FrameEnd U o U' L ({ frames := 0, cells := 0, slots := 0, locals := 0 } : Room).cells ({ frames := 0, cells := 0, slots := 0, locals := 0 } : Room).slots) := by
  refine MetFree.of_bodySF (plainFor_of_name pn_1) hisR ?_
  intro p e s m args below meth c s₁ Bd hml0 hP hK
  obtain ⟨rfl, hZ, hh⟩ := hP
  have hx := Bd.exec
  have hby := Bd.bytes
  have hml : c.maxLocals = 1 := hml0
  have hown : s.vm.findClass "com/example/reckonmill/reckonmill/lib/model/tree/ComparisonHoldsPinLaw" = some m.cls := findClass_of_methodNamed Bd.named
  have hnm := (name_of_methodNamed Bd.named Bd.method).1
  have X0 : Stand p l e ({ frames := 0, cells := 0, slots := 0, locals := 0 } : Room) s m #[(.int (3 : Int32))] below meth c s₁ [] 0 0 := Stand.of_body Bd
  have e0 : s₁.heap = h0 := by rw [← hh, Bd.state]; rfl
  have N0 := Fr.nil n0
  show own_Ends p e below s (Q1_3 Z wEQUAL wNOT_EQUAL wLESS wLESS_OR_EQUAL wGREATER wGREATER_OR_EQUAL h0 n0) _ _ s₁ _
  rw [ef_rm1_3 m ]
  refine own_go (T' := s₁) (f' := (mkF m 18 #[.val (.int (3 : Int32))] [(.int (3 : Int32))])) (fun _ k => XS.iloadN X0.here hx rfl (hb hby d1_0) rfl (XS.ifYes X0.here hx rfl (pc0 := 1) (pc' := 8) rfl (hb hby d1_1) rfl ((if0 _ _).trans (feq (by decide : ¬ ((3 : Int32) = (0 : Int32)))).2) (by decide) (by decide) (XS.iloadN X0.here hx rfl (hb hby d1_8) rfl (XS.iconst X0.here hx rfl (hb hby d1_9) (XS.icmpYes X0.here hx rfl (pc0 := 10) (pc' := 17) rfl (hb hby d1_10) rfl (feq (by decide : ¬ ((3 : Int32) = (1 : Int32)))).2 (by decide) (by decide) (XS.iloadN X0.here hx rfl (hb hby d1_17) rfl k)))))) ?_
  refine own_go (T' := s₁) (f' := (mkF m 31 #[.val (.int (3 : Int32))] [])) (fun _ k => XS.iconst X0.here hx rfl (hb hby d1_18) (XS.icmpYes X0.here hx rfl (pc0 := 19) (pc' := 26) rfl (hb hby d1_19) rfl (feq (by decide : ¬ ((3 : Int32) = (2 : Int32)))).2 (by decide) (by decide) (XS.iloadN X0.here hx rfl (hb hby d1_26) rfl (XS.iconst X0.here hx rfl (hb hby d1_27) (XS.icmpNo X0.here hx rfl (hb hby d1_28) rfl (teq (by decide : ((3 : Int32) = (3 : Int32)))).2 k))))) ?_
  obtain ⟨T1, X1, e1, st1⟩ := getS2 X0 hx hZ hown (host := "") (Or.inl (ow29 hw)) Via.refl e0 S_LESS_OR_EQUAL (g := (mkF m 31 #[.val (.int (3 : Int32))] [])) rfl (hb hby d1_31)
  refine own_go (T' := T1) (f' := (mkF m 34 #[.val (.int (3 : Int32))] [(.ref wLESS_OR_EQUAL)])) (fun _ k => st1 _ k) ?_
  refine own_ret X1 (v := some (.ref wLESS_OR_EQUAL)) (fun h => by rw [Bd.returns] at h; cases h) Bd.notSynchronized (fun fs hr => own_retA X1 hx Bd.returns rfl rfl (hb hby d1_34) hr) ?_ (by decide) (by decide)
  show Q1_3 Z wEQUAL wNOT_EQUAL wLESS wLESS_OR_EQUAL wGREATER wGREATER_OR_EQUAL h0 n0 _ T1.heap _
  exact ⟨rfl, N0, e1⟩
theorem d1_35 : decode method_2_code 35 = .ok (.iload_n 0, 1) := by decide +kernel
theorem d1_36 : decode method_2_code 36 = .ok (.iconst 4, 1) := by decide +kernel
theorem d1_37 : decode method_2_code 37 = .ok (.if_icmp .ne 7, 3) := by decide +kernel
theorem d1_40 : decode method_2_code 40 = .ok (.getstatic 22, 3) := by decide +kernel
theorem d1_43 : decode method_2_code 43 = .ok (.areturn, 1) := by decide +kernel
theorem ef_rm1_4 (m : MethodId)  : entryFrame m #[(.int (4 : Int32))] 1 = mkF m 0 #[.val (.int (4 : Int32))] [] := by first | (simp [entryFrame, mkF, argsToLocals, Value.category]; done) | rfl
def Q1_4 (Z : State) (wEQUAL : Addr) (wNOT_EQUAL : Addr) (wLESS : Addr) (wLESS_OR_EQUAL : Addr) (wGREATER : Addr) (wGREATER_OR_EQUAL : Addr) (h0 : Heap) (n0 : Nat) (v : Option Value) (h : Heap) (L : List Loc) : Prop := v = some (.ref wGREATER) ∧ Fr n0 L ∧ h = h0
set_option maxRecDepth 65536 in
set_option maxHeartbeats 40000000 in
theorem rm1_4 (l : Launch) (Z : State) (a0 : Array Value) (hw : ∀ d ∈ tables_1, d.before a0 Z = true) (ws : List Jvm.Cond) (wEQUAL : Addr) (wNOT_EQUAL : Addr) (wLESS : Addr) (wLESS_OR_EQUAL : Addr) (wGREATER : Addr) (wGREATER_OR_EQUAL : Addr) (h0 : Heap) (n0 : Nat) (Z0 : n0 ≤ h0.size) (S_EQUAL : Sta Z h0 "com/example/reckonmill/reckonmill/lib/model/tree/Comparison" "EQUAL" "Lcom/example/reckonmill/reckonmill/lib/model/tree/Comparison;" (.ref wEQUAL)) (S_NOT_EQUAL : Sta Z h0 "com/example/reckonmill/reckonmill/lib/model/tree/Comparison" "NOT_EQUAL" "Lcom/example/reckonmill/reckonmill/lib/model/tree/Comparison;" (.ref wNOT_EQUAL)) (S_LESS : Sta Z h0 "com/example/reckonmill/reckonmill/lib/model/tree/Comparison" "LESS" "Lcom/example/reckonmill/reckonmill/lib/model/tree/Comparison;" (.ref wLESS)) (S_LESS_OR_EQUAL : Sta Z h0 "com/example/reckonmill/reckonmill/lib/model/tree/Comparison" "LESS_OR_EQUAL" "Lcom/example/reckonmill/reckonmill/lib/model/tree/Comparison;" (.ref wLESS_OR_EQUAL)) (S_GREATER : Sta Z h0 "com/example/reckonmill/reckonmill/lib/model/tree/Comparison" "GREATER" "Lcom/example/reckonmill/reckonmill/lib/model/tree/Comparison;" (.ref wGREATER)) (S_GREATER_OR_EQUAL : Sta Z h0 "com/example/reckonmill/reckonmill/lib/model/tree/Comparison" "GREATER_OR_EQUAL" "Lcom/example/reckonmill/reckonmill/lib/model/tree/Comparison;" (.ref wGREATER_OR_EQUAL)) :
    MetFree l mn3 (head1 (Jvm.Cond.code mn3 method_2_code 1 (some (.object "com/example/reckonmill/reckonmill/lib/model/tree/Comparison")) :: ws) ({ frames := 0, cells := 0, slots := 0, locals := 0 } : Room)) (fun a U => a = #[(.int (4 : Int32))] ∧ Z.Warmed39 U.vm ∧ U.heap = h0) (fun _ _ _ _ _ => True) (fun _ U o U' => ∃ v L, o = .returned v ∧ Q1_4 Z wEQUAL wNOT_EQUAL wLESS wLESS_OR_EQUAL wGREATER wGREATER_OR_EQUAL h0 n0 v U'.heap L ∧ FrameEnd U o U' L ({ frames := 0, cells := 0, slots := 0, locals := 0 } : Room).cells ({ frames := 0, cells := 0, slots := 0, locals := 0 } : Room).slots) := by
  refine MetFree.of_bodySF (plainFor_of_name pn_1) hisR ?_
  intro p e s m args below meth c s₁ Bd hml0 hP hK
  obtain ⟨rfl, hZ, hh⟩ := hP
  have hx := Bd.exec
  have hby := Bd.bytes
  have hml : c.maxLocals = 1 := hml0
  have hown : s.vm.findClass "com/example/reckonmill/reckonmill/lib/model/tree/ComparisonHoldsPinLaw" = some m.cls := findClass_of_methodNamed Bd.named
  have hnm := (name_of_methodNamed Bd.named Bd.method).1
  have X0 : Stand p l e ({ frames := 0, cells := 0, slots := 0, locals := 0 } : Room) s m #[(.int (4 : Int32))] below meth c s₁ [] 0 0 := Stand.of_body Bd
  have e0 : s₁.heap = h0 := by rw [← hh, Bd.state]; rfl
  have N0 := Fr.nil n0
  show own_Ends p e below s (Q1_4 Z wEQUAL wNOT_EQUAL wLESS wLESS_OR_EQUAL wGREATER wGREATER_OR_EQUAL h0 n0) _ _ s₁ _
  rw [ef_rm1_4 m ]
  refine own_go (T' := s₁) (f' := (mkF m 18 #[.val (.int (4 : Int32))] [(.int (4 : Int32))])) (fun _ k => XS.iloadN X0.here hx rfl (hb hby d1_0) rfl (XS.ifYes X0.here hx rfl (pc0 := 1) (pc' := 8) rfl (hb hby d1_1) rfl ((if0 _ _).trans (feq (by decide : ¬ ((4 : Int32) = (0 : Int32)))).2) (by decide) (by decide) (XS.iloadN X0.here hx rfl (hb hby d1_8) rfl (XS.iconst X0.here hx rfl (hb hby d1_9) (XS.icmpYes X0.here hx rfl (pc0 := 10) (pc' := 17) rfl (hb hby d1_10) rfl (feq (by decide : ¬ ((4 : Int32) = (1 : Int32)))).2 (by decide) (by decide) (XS.iloadN X0.here hx rfl (hb hby d1_17) rfl k)))))) ?_
  refine own_go (T' := s₁) (f' := (mkF m 36 #[.val (.int (4 : Int32))] [(.int (4 : Int32))])) (fun _ k => XS.iconst X0.here hx rfl (hb hby d1_18) (XS.icmpYes X0.here hx rfl (pc0 := 19) (pc' := 26) rfl (hb hby d1_19) rfl (feq (by decide : ¬ ((4 : Int32) = (2 : Int32)))).2 (by decide) (by decide) (XS.iloadN X0.here hx rfl (hb hby d1_26) rfl (XS.iconst X0.here hx rfl (hb hby d1_27) (XS.icmpYes X0.here hx rfl (pc0 := 28) (pc' := 35) rfl (hb hby d1_28) rfl (feq (by decide : ¬ ((4 : Int32) = (3 : Int32)))).2 (by decide) (by decide) (XS.iloadN X0.here hx rfl (hb hby d1_35) rfl k)))))) ?_
  refine own_go (T' := s₁) (f' := (mkF m 40 #[.val (.int (4 : Int32))] [])) (fun _ k => XS.iconst X0.here hx rfl (hb hby d1_36) (XS.icmpNo X0.here hx rfl (hb hby d1_37) rfl (teq (by decide : ((4 : Int32) = (4 : Int32)))).2 k)) ?_
  obtain ⟨T1, X1, e1, st1⟩ := getS2 X0 hx hZ hown (host := "") (Or.inl (ow27 hw)) Via.refl e0 S_GREATER (g := (mkF m 40 #[.val (.int (4 : Int32))] [])) rfl (hb hby d1_40)
  refine own_go (T' := T1) (f' := (mkF m 43 #[.val (.int (4 : Int32))] [(.ref wGREATER)])) (fun _ k => st1 _ k) ?_
  refine own_ret X1 (v := some (.ref wGREATER)) (fun h => by rw [Bd.returns] at h; cases h) Bd.notSynchronized (fun fs hr => own_retA X1 hx Bd.returns rfl rfl (hb hby d1_43) hr) ?_ (by decide) (by decide)
  show Q1_4 Z wEQUAL wNOT_EQUAL wLESS wLESS_OR_EQUAL wGREATER wGREATER_OR_EQUAL h0 n0 _ T1.heap _
  exact ⟨rfl, N0, e1⟩
theorem d1_44 : decode method_2_code 44 = .ok (.getstatic 25, 3) := by decide +kernel
theorem d1_47 : decode method_2_code 47 = .ok (.areturn, 1) := by decide +kernel
theorem ef_rm1_5 (m : MethodId)  : entryFrame m #[(.int (5 : Int32))] 1 = mkF m 0 #[.val (.int (5 : Int32))] [] := by first | (simp [entryFrame, mkF, argsToLocals, Value.category]; done) | rfl
def Q1_5 (Z : State) (wEQUAL : Addr) (wNOT_EQUAL : Addr) (wLESS : Addr) (wLESS_OR_EQUAL : Addr) (wGREATER : Addr) (wGREATER_OR_EQUAL : Addr) (h0 : Heap) (n0 : Nat) (v : Option Value) (h : Heap) (L : List Loc) : Prop := v = some (.ref wGREATER_OR_EQUAL) ∧ Fr n0 L ∧ h = h0
set_option maxRecDepth 65536 in
set_option maxHeartbeats 40000000 in
theorem rm1_5 (l : Launch) (Z : State) (a0 : Array Value) (hw : ∀ d ∈ tables_1, d.before a0 Z = true) (ws : List Jvm.Cond) (wEQUAL : Addr) (wNOT_EQUAL : Addr) (wLESS : Addr) (wLESS_OR_EQUAL : Addr) (wGREATER : Addr) (wGREATER_OR_EQUAL : Addr) (h0 : Heap) (n0 : Nat) (Z0 : n0 ≤ h0.size) (S_EQUAL : Sta Z h0 "com/example/reckonmill/reckonmill/lib/model/tree/Comparison" "EQUAL" "Lcom/example/reckonmill/reckonmill/lib/model/tree/Comparison;" (.ref wEQUAL)) (S_NOT_EQUAL : Sta Z h0 "com/example/reckonmill/reckonmill/lib/model/tree/Comparison" "NOT_EQUAL" "Lcom/example/reckonmill/reckonmill/lib/model/tree/Comparison;" (.ref wNOT_EQUAL)) (S_LESS : Sta Z h0 "com/example/reckonmill/reckonmill/lib/model/tree/Comparison" "LESS" "Lcom/example/reckonmill/reckonmill/lib/model/tree/Comparison;" (.ref wLESS)) (S_LESS_OR_EQUAL : Sta Z h0 "com/example/reckonmill/reckonmill/lib/model/tree/Comparison" "LESS_OR_EQUAL" "Lcom/example/reckonmill/reckonmill/lib/model/tree/Comparison;" (.ref wLESS_OR_EQUAL)) (S_GREATER : Sta Z h0 "com/example/reckonmill/reckonmill/lib/model/tree/Comparison" "GREATER" "Lcom/example/reckonmill/reckonmill/lib/model/tree/Comparison;" (.ref wGREATER)) (S_GREATER_OR_EQUAL : Sta Z h0 "com/example/reckonmill/reckonmill/lib/model/tree/Comparison" "GREATER_OR_EQUAL" "Lcom/example/reckonmill/reckonmill/lib/model/tree/Comparison;" (.ref wGREATER_OR_EQUAL)) :
    MetFree l mn3 (head1 (Jvm.Cond.code mn3 method_2_code 1 (some (.object "com/example/reckonmill/reckonmill/lib/model/tree/Comparison")) :: ws) ({ frames := 0, cells := 0, slots := 0, locals := 0 } : Room)) (fun a U => a = #[(.int (5 : Int32))] ∧ Z.Warmed39 U.vm ∧ U.heap = h0) (fun _ _ _ _ _ => True) (fun _ U o U' => ∃ v L, o = .returned v ∧ Q1_5 Z wEQUAL wNOT_EQUAL wLESS wLESS_OR_EQUAL wGREATER wGREATER_OR_EQUAL h0 n0 v U'.heap L ∧ FrameEnd U o U' L ({ frames := 0, cells := 0, slots := 0, locals := 0 } : Room).cells ({ frames := 0, cells := 0, slots := 0, locals := 0 } : Room).slots) := by
  refine MetFree.of_bodySF (plainFor_of_name pn_1) hisR ?_
  intro p e s m args below meth c s₁ Bd hml0 hP hK
  obtain ⟨rfl, hZ, hh⟩ := hP
  have hx := Bd.exec
  have hby := Bd.bytes
  have hml : c.maxLocals = 1 := hml0
  have hown : s.vm.findClass "com/example/reckonmill/reckonmill/lib/model/tree/ComparisonHoldsPinLaw" = some m.cls := findClass_of_methodNamed Bd.named
  have hnm := (name_of_methodNamed Bd.named Bd.method).1
  have X0 : Stand p l e ({ frames := 0, cells := 0, slots := 0, locals := 0 } : Room) s m #[(.int (5 : Int32))] below meth c s₁ [] 0 0 := Stand.of_body Bd
  have e0 : s₁.heap = h0 := by rw [← hh, Bd.state]; rfl
  have N0 := Fr.nil n0
  show own_Ends p e below s (Q1_5 Z wEQUAL wNOT_EQUAL wLESS wLESS_OR_EQUAL wGREATER wGREATER_OR_EQUAL h0 n0) _ _ s₁ _
  rw [ef_rm1_5 m ]
  refine own_go (T' := s₁) (f' := (mkF m 18 #[.val (.int (5 : Int32))] [(.int (5 : Int32))])) (fun _ k => XS.iloadN X0.here hx rfl (hb hby d1_0) rfl (XS.ifYes X0.here hx rfl (pc0 := 1) (pc' := 8) rfl (hb hby d1_1) rfl ((if0 _ _).trans (feq (by decide : ¬ ((5 : Int32) = (0 : Int32)))).2) (by decide) (by decide) (XS.iloadN X0.here hx rfl (hb hby d1_8) rfl (XS.iconst X0.here hx rfl (hb hby d1_9) (XS.icmpYes X0.here hx rfl (pc0 := 10) (pc' := 17) rfl (hb hby d1_10) rfl (feq (by decide : ¬ ((5 : Int32) = (1 : Int32)))).2 (by decide) (by decide) (XS.iloadN X0.here hx rfl (hb hby d1_17) rfl k)))))) ?_
  refine own_go (T' := s₁) (f' := (mkF m 36 #[.val (.int (5 : Int32))] [(.int (5 : Int32))])) (fun _ k => XS.iconst X0.here hx rfl (hb hby d1_18) (XS.icmpYes X0.here hx rfl (pc0 := 19) (pc' := 26) rfl (hb hby d1_19) rfl (feq (by decide : ¬ ((5 : Int32) = (2 : Int32)))).2 (by decide) (by decide) (XS.iloadN X0.here hx rfl (hb hby d1_26) rfl (XS.iconst X0.here hx rfl (hb hby d1_27) (XS.icmpYes X0.here hx rfl (pc0 := 28) (pc' := 35) rfl (hb hby d1_28) rfl (feq (by decide : ¬ ((5 : Int32) = (3 : Int32)))).2 (by decide) (by decide) (XS.iloadN X0.here hx rfl (hb hby d1_35) rfl k)))))) ?_
  refine own_go (T' := s₁) (f' := (mkF m 44 #[.val (.int (5 : Int32))] [])) (fun _ k => XS.iconst X0.here hx rfl (hb hby d1_36) (XS.icmpYes X0.here hx rfl (pc0 := 37) (pc' := 44) rfl (hb hby d1_37) rfl (feq (by decide : ¬ ((5 : Int32) = (4 : Int32)))).2 (by decide) (by decide) k)) ?_
  obtain ⟨T1, X1, e1, st1⟩ := getS2 X0 hx hZ hown (host := "") (Or.inl (ow31 hw)) Via.refl e0 S_GREATER_OR_EQUAL (g := (mkF m 44 #[.val (.int (5 : Int32))] [])) rfl (hb hby d1_44)
  refine own_go (T' := T1) (f' := (mkF m 47 #[.val (.int (5 : Int32))] [(.ref wGREATER_OR_EQUAL)])) (fun _ k => st1 _ k) ?_
  refine own_ret X1 (v := some (.ref wGREATER_OR_EQUAL)) (fun h => by rw [Bd.returns] at h; cases h) Bd.notSynchronized (fun fs hr => own_retA X1 hx Bd.returns rfl rfl (hb hby d1_47) hr) ?_ (by decide) (by decide)
  show Q1_5 Z wEQUAL wNOT_EQUAL wLESS wLESS_OR_EQUAL wGREATER wGREATER_OR_EQUAL h0 n0 _ T1.heap _
  exact ⟨rfl, N0, e1⟩
theorem d4_0 : decode method_3_code 0 = .ok (.iload_n 0, 1) := by decide +kernel
theorem d4_1 : decode method_3_code 1 = .ok (.ifCond .ne 13, 3) := by decide +kernel
theorem d4_4 : decode method_3_code 4 = .ok (.iload_n 1, 1) := by decide +kernel
theorem d4_5 : decode method_3_code 5 = .ok (.ifCond .ne 7, 3) := by decide +kernel
theorem d4_12 : decode method_3_code 12 = .ok (.iconst 0, 1) := by decide +kernel
theorem d4_13 : decode method_3_code 13 = .ok (.ireturn, 1) := by decide +kernel
theorem ef_rm4_0lt (m : MethodId)  : entryFrame m #[(.int (0 : Int32)), (.int (-1 : Int32))] 2 = mkF m 0 #[.val (.int (0 : Int32)), .val (.int (-1 : Int32))] [] := by first | (simp [entryFrame, mkF, argsToLocals, Value.category]; done) | rfl
def Q4_0lt (Z : State)  (h0 : Heap) (n0 : Nat) (v : Option Value) (h : Heap) (L : List Loc) : Prop := v = some (.int (0 : Int32)) ∧ Fr n0 L ∧ h = h0
set_option maxRecDepth 65536 in
set_option maxHeartbeats 40000000 in
theorem rm4_0lt (l : Launch) (Z : State) (a0 : Array Value) (hw : ∀ d ∈ tables_1, d.before a0 Z = true) (ws : List Jvm.Cond)  (h0 : Heap) (n0 : Nat) (Z0 : n0 ≤ h0.size) :
    MetFree l mn4 (head1 (Jvm.Cond.code mn4 method_3_code 2 (some .boolean) :: ws) ({ frames := 0, cells := 0, slots := 0, locals := 0 } : Room)) (fun a U => a = #[(.int (0 : Int32)), (.int (-1 : Int32))] ∧ Z.Warmed39 U.vm ∧ U.heap = h0) (fun _ _ _ _ _ => True) (fun _ U o U' => ∃ v L, o = .returned v ∧ Q4_0lt Z  h0 n0 v U'.heap L ∧ FrameEnd U o U' L ({ frames := 0, cells := 0, slots := 0, locals := 0 } : Room).cells ({ frames := 0, cells := 0, slots := 0, locals := 0 } : Room).slots) := by
  refine MetFree.of_bodySF (plainFor_of_name pn_1) hisR ?_
  intro p e s m args below meth c s₁ Bd hml0 hP hK
  obtain ⟨rfl, hZ, hh⟩ := hP
  have hx := Bd.exec
  have hby := Bd.bytes
  have hml : c.maxLocals = 2 := hml0
  have hown : s.vm.findClass "com/example/reckonmill/reckonmill/lib/model/tree/ComparisonHoldsPinLaw" = some m.cls := findClass_of_methodNamed Bd.named
  have hnm := (name_of_methodNamed Bd.named Bd.method).1
  have X0 : Stand p l e ({ frames := 0, cells := 0, slots := 0, locals := 0 } : Room) s m #[(.int (0 : Int32)), (.int (-1 : Int32))] below meth c s₁ [] 0 0 := Stand.of_body Bd
  have e0 : s₁.heap = h0 := by rw [← hh, Bd.state]; rfl
  have N0 := Fr.nil n0
  show own_Ends p e below s (Q4_0lt Z  h0 n0) _ _ s₁ _
  rw [ef_rm4_0lt m ]
  refine own_go (T' := s₁) (f' := (mkF m 13 #[.val (.int (0 : Int32)), .val (.int (-1 : Int32))] [(.int (0 : Int32))])) (fun _ k => XS.iloadN X0.here hx rfl (hb hby d4_0) rfl (XS.ifNo X0.here hx rfl (hb hby d4_1) rfl ((if0 _ _).trans (teq (by decide : ((0 : Int32) = (0 : Int32)))).2) (XS.iloadN X0.here hx rfl (hb hby d4_4) rfl (XS.ifYes X0.here hx rfl (pc0 := 5) (pc' := 12) rfl (hb hby d4_5) rfl ((if0 _ _).trans (feq (by decide : ¬ ((-1 : Int32) = (0 : Int32)))).2) (by decide) (by decide) (XS.iconst X0.here hx rfl (hb hby d4_12) k))))) ?_
  refine own_ret X0 (v := some (.int (0 : Int32))) (fun h => by rw [Bd.returns] at h; cases h) Bd.notSynchronized (fun fs hr => retN X0 hx (t := .boolean) Bd.returns (by simp) (hb hby d4_13) hr) ?_ (by decide) (by decide)
  show Q4_0lt Z  h0 n0 _ s₁.heap _
  exact ⟨rfl, N0, e0⟩
theorem d4_8 : decode method_3_code 8 = .ok (.iconst 1, 1) := by decide +kernel
theorem d4_9 : decode method_3_code 9 = .ok (.goto 4, 3) := by decide +kernel
theorem ef_rm4_0eq (m : MethodId)  : entryFrame m #[(.int (0 : Int32)), (.int (0 : Int32))] 2 = mkF m 0 #[.val (.int (0 : Int32)), .val (.int (0 : Int32))] [] := by first | (simp [entryFrame, mkF, argsToLocals, Value.category]; done) | rfl
def Q4_0eq (Z : State)  (h0 : Heap) (n0 : Nat) (v : Option Value) (h : Heap) (L : List Loc) : Prop := v = some (.int (1 : Int32)) ∧ Fr n0 L ∧ h = h0
set_option maxRecDepth 65536 in
set_option maxHeartbeats 40000000 in
theorem rm4_0eq (l : Launch) (Z : State) (a0 : Array Value) (hw : ∀ d ∈ tables_1, d.before a0 Z = true) (ws : List Jvm.Cond)  (h0 : Heap) (n0 : Nat) (Z0 : n0 ≤ h0.size) :
    MetFree l mn4 (head1 (Jvm.Cond.code mn4 method_3_code 2 (some .boolean) :: ws) ({ frames := 0, cells := 0, slots := 0, locals := 0 } : Room)) (fun a U => a = #[(.int (0 : Int32)), (.int (0 : Int32))] ∧ Z.Warmed39 U.vm ∧ U.heap = h0) (fun _ _ _ _ _ => True) (fun _ U o U' => ∃ v L, o = .returned v ∧ Q4_0eq Z  h0 n0 v U'.heap L ∧ FrameEnd U o U' L ({ frames := 0, cells := 0, slots := 0, locals := 0 } : Room).cells ({ frames := 0, cells := 0, slots := 0, locals := 0 } : Room).slots) := by
  refine MetFree.of_bodySF (plainFor_of_name pn_1) hisR ?_
  intro p e s m args below meth c s₁ Bd hml0 hP hK
  obtain ⟨rfl, hZ, hh⟩ := hP
  have hx := Bd.exec
  have hby := Bd.bytes
  have hml : c.maxLocals = 2 := hml0
  have hown : s.vm.findClass "com/example/reckonmill/reckonmill/lib/model/tree/ComparisonHoldsPinLaw" = some m.cls := findClass_of_methodNamed Bd.named
  have hnm := (name_of_methodNamed Bd.named Bd.method).1
  have X0 : Stand p l e ({ frames := 0, cells := 0, slots := 0, locals := 0 } : Room) s m #[(.int (0 : Int32)), (.int (0 : Int32))] below meth c s₁ [] 0 0 := Stand.of_body Bd
  have e0 : s₁.heap = h0 := by rw [← hh, Bd.state]; rfl
  have N0 := Fr.nil n0
  show own_Ends p e below s (Q4_0eq Z  h0 n0) _ _ s₁ _
  rw [ef_rm4_0eq m ]
  refine own_go (T' := s₁) (f' := (mkF m 13 #[.val (.int (0 : Int32)), .val (.int (0 : Int32))] [(.int (1 : Int32))])) (fun _ k => XS.iloadN X0.here hx rfl (hb hby d4_0) rfl (XS.ifNo X0.here hx rfl (hb hby d4_1) rfl ((if0 _ _).trans (teq (by decide : ((0 : Int32) = (0 : Int32)))).2) (XS.iloadN X0.here hx rfl (hb hby d4_4) rfl (XS.ifNo X0.here hx rfl (hb hby d4_5) rfl ((if0 _ _).trans (teq (by decide : ((0 : Int32) = (0 : Int32)))).2) (XS.iconst X0.here hx rfl (hb hby d4_8) (XS.goto X0.here hx rfl (pc0 := 9) (pc' := 13) rfl (hb hby d4_9) (by decide) (by decide) k)))))) ?_
  refine own_ret X0 (v := some (.int (1 : Int32))) (fun h => by rw [Bd.returns] at h; cases h) Bd.notSynchronized (fun fs hr => retN X0 hx (t := .boolean) Bd.returns (by simp) (hb hby d4_13) hr) ?_ (by decide) (by decide)
  show Q4_0eq Z  h0 n0 _ s₁.heap _
  exact ⟨rfl, N0, e0⟩
theorem ef_rm4_0gt (m : MethodId)  : entryFrame m #[(.int (0 : Int32)), (.int (1 : Int32))] 2 = mkF m 0 #[.val (.int (0 : Int32)), .val (.int (1 : Int32))] [] := by first | (simp [entryFrame, mkF, argsToLocals, Value.category]; done) | rfl
def Q4_0gt (Z : State)  (h0 : Heap) (n0 : Nat) (v : Option Value) (h : Heap) (L : List Loc) : Prop := v = some (.int (0 : Int32)) ∧ Fr n0 L ∧ h = h0
set_option maxRecDepth 65536 in
set_option maxHeartbeats 40000000 in
theorem rm4_0gt (l : Launch) (Z : State) (a0 : Array Value) (hw : ∀ d ∈ tables_1, d.before a0 Z = true) (ws : List Jvm.Cond)  (h0 : Heap) (n0 : Nat) (Z0 : n0 ≤ h0.size) :
    MetFree l mn4 (head1 (Jvm.Cond.code mn4 method_3_code 2 (some .boolean) :: ws) ({ frames := 0, cells := 0, slots := 0, locals := 0 } : Room)) (fun a U => a = #[(.int (0 : Int32)), (.int (1 : Int32))] ∧ Z.Warmed39 U.vm ∧ U.heap = h0) (fun _ _ _ _ _ => True) (fun _ U o U' => ∃ v L, o = .returned v ∧ Q4_0gt Z  h0 n0 v U'.heap L ∧ FrameEnd U o U' L ({ frames := 0, cells := 0, slots := 0, locals := 0 } : Room).cells ({ frames := 0, cells := 0, slots := 0, locals := 0 } : Room).slots) := by
  refine MetFree.of_bodySF (plainFor_of_name pn_1) hisR ?_
  intro p e s m args below meth c s₁ Bd hml0 hP hK
  obtain ⟨rfl, hZ, hh⟩ := hP
  have hx := Bd.exec
  have hby := Bd.bytes
  have hml : c.maxLocals = 2 := hml0
  have hown : s.vm.findClass "com/example/reckonmill/reckonmill/lib/model/tree/ComparisonHoldsPinLaw" = some m.cls := findClass_of_methodNamed Bd.named
  have hnm := (name_of_methodNamed Bd.named Bd.method).1
  have X0 : Stand p l e ({ frames := 0, cells := 0, slots := 0, locals := 0 } : Room) s m #[(.int (0 : Int32)), (.int (1 : Int32))] below meth c s₁ [] 0 0 := Stand.of_body Bd
  have e0 : s₁.heap = h0 := by rw [← hh, Bd.state]; rfl
  have N0 := Fr.nil n0
  show own_Ends p e below s (Q4_0gt Z  h0 n0) _ _ s₁ _
  rw [ef_rm4_0gt m ]
  refine own_go (T' := s₁) (f' := (mkF m 13 #[.val (.int (0 : Int32)), .val (.int (1 : Int32))] [(.int (0 : Int32))])) (fun _ k => XS.iloadN X0.here hx rfl (hb hby d4_0) rfl (XS.ifNo X0.here hx rfl (hb hby d4_1) rfl ((if0 _ _).trans (teq (by decide : ((0 : Int32) = (0 : Int32)))).2) (XS.iloadN X0.here hx rfl (hb hby d4_4) rfl (XS.ifYes X0.here hx rfl (pc0 := 5) (pc' := 12) rfl (hb hby d4_5) rfl ((if0 _ _).trans (feq (by decide : ¬ ((1 : Int32) = (0 : Int32)))).2) (by decide) (by decide) (XS.iconst X0.here hx rfl (hb hby d4_12) k))))) ?_
  refine own_ret X0 (v := some (.int (0 : Int32))) (fun h => by rw [Bd.returns] at h; cases h) Bd.notSynchronized (fun fs hr => retN X0 hx (t := .boolean) Bd.returns (by simp) (hb hby d4_13) hr) ?_ (by decide) (by decide)
  show Q4_0gt Z  h0 n0 _ s₁.heap _
  exact ⟨rfl, N0, e0⟩
theorem d4_14 : decode method_3_code 14 = .ok (.iload_n 0, 1) := by decide +kernel
theorem d4_15 : decode method_3_code 15 = .ok (.iconst 1, 1) := by decide +kernel
theorem d4_16 : decode method_3_code 16 = .ok (.if_icmp .ne 13, 3) := by decide +kernel
theorem d4_19 : decode method_3_code 19 = .ok (.iload_n 1, 1) := by decide +kernel
theorem d4_20 : decode method_3_code 20 = .ok (.ifCond .eq 7, 3) := by decide +kernel
theorem d4_23 : decode method_3_code 23 = .ok (.iconst 1, 1) := by decide +kernel
theorem d4_24 : decode method_3_code 24 = .ok (.goto 4, 3) := by decide +kernel
theorem d4_28 : decode method_3_code 28 = .ok (.ireturn, 1) := by decide +kernel
theorem ef_rm4_1lt (m : MethodId)  : entryFrame m #[(.int (1 : Int32)), (.int (-1 : Int32))] 2 = mkF m 0 #[.val (.int (1 : Int32)), .val (.int (-1 : Int32))] [] := by first | (simp [entryFrame, mkF, argsToLocals, Value.category]; done) | rfl
def Q4_1lt (Z : State)  (h0 : Heap) (n0 : Nat) (v : Option Value) (h : Heap) (L : List Loc) : Prop := v = some (.int (1 : Int32)) ∧ Fr n0 L ∧ h = h0
set_option maxRecDepth 65536 in
set_option maxHeartbeats 40000000 in
theorem rm4_1lt (l : Launch) (Z : State) (a0 : Array Value) (hw : ∀ d ∈ tables_1, d.before a0 Z = true) (ws : List Jvm.Cond)  (h0 : Heap) (n0 : Nat) (Z0 : n0 ≤ h0.size) :
    MetFree l mn4 (head1 (Jvm.Cond.code mn4 method_3_code 2 (some .boolean) :: ws) ({ frames := 0, cells := 0, slots := 0, locals := 0 } : Room)) (fun a U => a = #[(.int (1 : Int32)), (.int (-1 : Int32))] ∧ Z.Warmed39 U.vm ∧ U.heap = h0) (fun _ _ _ _ _ => True) (fun _ U o U' => ∃ v L, o = .returned v ∧ Q4_1lt Z  h0 n0 v U'.heap L ∧ FrameEnd U o U' L ({ frames := 0, cells := 0, slots := 0, locals := 0 } : Room).cells ({ frames := 0, cells := 0, slots := 0, locals := 0 } : Room).slots) := by
  refine MetFree.of_bodySF (plainFor_of_name pn_1) hisR ?_
  intro p e s m args below meth c s₁ Bd hml0 hP hK
  obtain ⟨rfl, hZ, hh⟩ := hP
  have hx := Bd.exec
  have hby := Bd.bytes
  have hml : c.maxLocals = 2 := hml0
  have hown : s.vm.findClass "com/example/reckonmill/reckonmill/lib/model/tree/ComparisonHoldsPinLaw" = some m.cls := findClass_of_methodNamed Bd.named
  have hnm := (name_of_methodNamed Bd.named Bd.method).1
  have X0 : Stand p l e ({ frames := 0, cells := 0, slots := 0, locals := 0 } : Room) s m #[(.int (1 : Int32)), (.int (-1 : Int32))] below meth c s₁ [] 0 0 := Stand.of_body Bd
  have e0 : s₁.heap = h0 := by rw [← hh, Bd.state]; rfl
  have N0 := Fr.nil n0
  show own_Ends p e below s (Q4_1lt Z  h0 n0) _ _ s₁ _
  rw [ef_rm4_1lt m ]
  refine own_go (T' := s₁) (f' := (mkF m 20 #[.val (.int (1 : Int32)), .val (.int (-1 : Int32))] [(.int (-1 : Int32))])) (fun _ k => XS.iloadN X0.here hx rfl (hb hby d4_0) rfl (XS.ifYes X0.here hx rfl (pc0 := 1) (pc' := 14) rfl (hb hby d4_1) rfl ((if0 _ _).trans (feq (by decide : ¬ ((1 : Int32) = (0 : Int32)))).2) (by decide) (by decide) (XS.iloadN X0.here hx rfl (hb hby d4_14) rfl (XS.iconst X0.here hx rfl (hb hby d4_15) (XS.icmpNo X0.here hx rfl (hb hby d4_16) rfl (teq (by decide : ((1 : Int32) = (1 : Int32)))).2 (XS.iloadN X0.here hx rfl (hb hby d4_19) rfl k)))))) ?_
  refine own_go (T' := s₁) (f' := (mkF m 28 #[.val (.int (1 : Int32)), .val (.int (-1 : Int32))] [(.int (1 : Int32))])) (fun _ k => XS.ifNo X0.here hx rfl (hb hby d4_20) rfl ((if0 _ _).trans (feq (by decide : ¬ ((-1 : Int32) = (0 : Int32)))).1) (XS.iconst X0.here hx rfl (hb hby d4_23) (XS.goto X0.here hx rfl (pc0 := 24) (pc' := 28) rfl (hb hby d4_24) (by decide) (by decide) k))) ?_
  refine own_ret X0 (v := some (.int (1 : Int32))) (fun h => by rw [Bd.returns] at h; cases h) Bd.notSynchronized (fun fs hr => retN X0 hx (t := .boolean) Bd.returns (by simp) (hb hby d4_28) hr) ?_ (by decide) (by decide)
  show Q4_1lt Z  h0 n0 _ s₁.heap _
  exact ⟨rfl, N0, e0⟩
theorem d4_27 : decode method_3_code 27 = .ok (.iconst 0, 1) := by decide +kernel
theorem ef_rm4_1eq (m : MethodId)  : entryFrame m #[(.int (1 : Int32)), (.int (0 : Int32))] 2 = mkF m 0 #[.val (.int (1 : Int32)), .val (.int (0 : Int32))] [] := by first | (simp [entryFrame, mkF, argsToLocals, Value.category]; done) | rfl
def Q4_1eq (Z : State)  (h0 : Heap) (n0 : Nat) (v : Option Value) (h : Heap) (L : List Loc) : Prop := v = some (.int (0 : Int32)) ∧ Fr n0 L ∧ h = h0
set_option maxRecDepth 65536 in
set_option maxHeartbeats 40000000 in
theorem rm4_1eq (l : Launch) (Z : State) (a0 : Array Value) (hw : ∀ d ∈ tables_1, d.before a0 Z = true) (ws : List Jvm.Cond)  (h0 : Heap) (n0 : Nat) (Z0 : n0 ≤ h0.size) :
    MetFree l mn4 (head1 (Jvm.Cond.code mn4 method_3_code 2 (some .boolean) :: ws) ({ frames := 0, cells := 0, slots := 0, locals := 0 } : Room)) (fun a U => a = #[(.int (1 : Int32)), (.int (0 : Int32))] ∧ Z.Warmed39 U.vm ∧ U.heap = h0) (fun _ _ _ _ _ => True) (fun _ U o U' => ∃ v L, o = .returned v ∧ Q4_1eq Z  h0 n0 v U'.heap L ∧ FrameEnd U o U' L ({ frames := 0, cells := 0, slots := 0, locals := 0 } : Room).cells ({ frames := 0, cells := 0, slots := 0, locals := 0 } : Room).slots) := by
  refine MetFree.of_bodySF (plainFor_of_name pn_1) hisR ?_
  intro p e s m args below meth c s₁ Bd hml0 hP hK
  obtain ⟨rfl, hZ, hh⟩ := hP
  have hx := Bd.exec
  have hby := Bd.bytes
  have hml : c.maxLocals = 2 := hml0
  have hown : s.vm.findClass "com/example/reckonmill/reckonmill/lib/model/tree/ComparisonHoldsPinLaw" = some m.cls := findClass_of_methodNamed Bd.named
  have hnm := (name_of_methodNamed Bd.named Bd.method).1
  have X0 : Stand p l e ({ frames := 0, cells := 0, slots := 0, locals := 0 } : Room) s m #[(.int (1 : Int32)), (.int (0 : Int32))] below meth c s₁ [] 0 0 := Stand.of_body Bd
  have e0 : s₁.heap = h0 := by rw [← hh, Bd.state]; rfl
  have N0 := Fr.nil n0
  show own_Ends p e below s (Q4_1eq Z  h0 n0) _ _ s₁ _
  rw [ef_rm4_1eq m ]
  refine own_go (T' := s₁) (f' := (mkF m 20 #[.val (.int (1 : Int32)), .val (.int (0 : Int32))] [(.int (0 : Int32))])) (fun _ k => XS.iloadN X0.here hx rfl (hb hby d4_0) rfl (XS.ifYes X0.here hx rfl (pc0 := 1) (pc' := 14) rfl (hb hby d4_1) rfl ((if0 _ _).trans (feq (by decide : ¬ ((1 : Int32) = (0 : Int32)))).2) (by decide) (by decide) (XS.iloadN X0.here hx rfl (hb hby d4_14) rfl (XS.iconst X0.here hx rfl (hb hby d4_15) (XS.icmpNo X0.here hx rfl (hb hby d4_16) rfl (teq (by decide : ((1 : Int32) = (1 : Int32)))).2 (XS.iloadN X0.here hx rfl (hb hby d4_19) rfl k)))))) ?_
  refine own_go (T' := s₁) (f' := (mkF m 28 #[.val (.int (1 : Int32)), .val (.int (0 : Int32))] [(.int (0 : Int32))])) (fun _ k => XS.ifYes X0.here hx rfl (pc0 := 20) (pc' := 27) rfl (hb hby d4_20) rfl ((if0 _ _).trans (teq (by decide : ((0 : Int32) = (0 : Int32)))).1) (by decide) (by decide) (XS.iconst X0.here hx rfl (hb hby d4_27) k)) ?_
  refine own_ret X0 (v := some (.int (0 : Int32))) (fun h => by rw [Bd.returns] at h; cases h) Bd.notSynchronized (fun fs hr => retN X0 hx (t := .boolean) Bd.returns (by simp) (hb hby d4_28) hr) ?_ (by decide) (by decide)
  show Q4_1eq Z  h0 n0 _ s₁.heap _
  exact ⟨rfl, N0, e0⟩
theorem ef_rm4_1gt (m : MethodId)  : entryFrame m #[(.int (1 : Int32)), (.int (1 : Int32))] 2 = mkF m 0 #[.val (.int (1 : Int32)), .val (.int (1 : Int32))] [] := by first | (simp [entryFrame, mkF, argsToLocals, Value.category]; done) | rfl
def Q4_1gt (Z : State)  (h0 : Heap) (n0 : Nat) (v : Option Value) (h : Heap) (L : List Loc) : Prop := v = some (.int (1 : Int32)) ∧ Fr n0 L ∧ h = h0
set_option maxRecDepth 65536 in
set_option maxHeartbeats 40000000 in
theorem rm4_1gt (l : Launch) (Z : State) (a0 : Array Value) (hw : ∀ d ∈ tables_1, d.before a0 Z = true) (ws : List Jvm.Cond)  (h0 : Heap) (n0 : Nat) (Z0 : n0 ≤ h0.size) :
    MetFree l mn4 (head1 (Jvm.Cond.code mn4 method_3_code 2 (some .boolean) :: ws) ({ frames := 0, cells := 0, slots := 0, locals := 0 } : Room)) (fun a U => a = #[(.int (1 : Int32)), (.int (1 : Int32))] ∧ Z.Warmed39 U.vm ∧ U.heap = h0) (fun _ _ _ _ _ => True) (fun _ U o U' => ∃ v L, o = .returned v ∧ Q4_1gt Z  h0 n0 v U'.heap L ∧ FrameEnd U o U' L ({ frames := 0, cells := 0, slots := 0, locals := 0 } : Room).cells ({ frames := 0, cells := 0, slots := 0, locals := 0 } : Room).slots) := by
  refine MetFree.of_bodySF (plainFor_of_name pn_1) hisR ?_
  intro p e s m args below meth c s₁ Bd hml0 hP hK
  obtain ⟨rfl, hZ, hh⟩ := hP
  have hx := Bd.exec
  have hby := Bd.bytes
  have hml : c.maxLocals = 2 := hml0
  have hown : s.vm.findClass "com/example/reckonmill/reckonmill/lib/model/tree/ComparisonHoldsPinLaw" = some m.cls := findClass_of_methodNamed Bd.named
  have hnm := (name_of_methodNamed Bd.named Bd.method).1
  have X0 : Stand p l e ({ frames := 0, cells := 0, slots := 0, locals := 0 } : Room) s m #[(.int (1 : Int32)), (.int (1 : Int32))] below meth c s₁ [] 0 0 := Stand.of_body Bd
  have e0 : s₁.heap = h0 := by rw [← hh, Bd.state]; rfl
  have N0 := Fr.nil n0
  show own_Ends p e below s (Q4_1gt Z  h0 n0) _ _ s₁ _
  rw [ef_rm4_1gt m ]
  refine own_go (T' := s₁) (f' := (mkF m 20 #[.val (.int (1 : Int32)), .val (.int (1 : Int32))] [(.int (1 : Int32))])) (fun _ k => XS.iloadN X0.here hx rfl (hb hby d4_0) rfl (XS.ifYes X0.here hx rfl (pc0 := 1) (pc' := 14) rfl (hb hby d4_1) rfl ((if0 _ _).trans (feq (by decide : ¬ ((1 : Int32) = (0 : Int32)))).2) (by decide) (by decide) (XS.iloadN X0.here hx rfl (hb hby d4_14) rfl (XS.iconst X0.here hx rfl (hb hby d4_15) (XS.icmpNo X0.here hx rfl (hb hby d4_16) rfl (teq (by decide : ((1 : Int32) = (1 : Int32)))).2 (XS.iloadN X0.here hx rfl (hb hby d4_19) rfl k)))))) ?_
  refine own_go (T' := s₁) (f' := (mkF m 28 #[.val (.int (1 : Int32)), .val (.int (1 : Int32))] [(.int (1 : Int32))])) (fun _ k => XS.ifNo X0.here hx rfl (hb hby d4_20) rfl ((if0 _ _).trans (feq (by decide : ¬ ((1 : Int32) = (0 : Int32)))).1) (XS.iconst X0.here hx rfl (hb hby d4_23) (XS.goto X0.here hx rfl (pc0 := 24) (pc' := 28) rfl (hb hby d4_24) (by decide) (by decide) k))) ?_
  refine own_ret X0 (v := some (.int (1 : Int32))) (fun h => by rw [Bd.returns] at h; cases h) Bd.notSynchronized (fun fs hr => retN X0 hx (t := .boolean) Bd.returns (by simp) (hb hby d4_28) hr) ?_ (by decide) (by decide)
  show Q4_1gt Z  h0 n0 _ s₁.heap _
  exact ⟨rfl, N0, e0⟩
theorem d4_29 : decode method_3_code 29 = .ok (.iload_n 0, 1) := by decide +kernel
theorem d4_30 : decode method_3_code 30 = .ok (.iconst 2, 1) := by decide +kernel
theorem d4_31 : decode method_3_code 31 = .ok (.if_icmp .ne 13, 3) := by decide +kernel
theorem d4_34 : decode method_3_code 34 = .ok (.iload_n 1, 1) := by decide +kernel
theorem d4_35 : decode method_3_code 35 = .ok (.ifCond .ge 7, 3) := by decide +kernel
theorem d4_38 : decode method_3_code 38 = .ok (.iconst 1, 1) := by decide +kernel
theorem d4_39 : decode method_3_code 39 = .ok (.goto 4, 3) := by decide +kernel
theorem d4_43 : decode method_3_code 43 = .ok (.ireturn, 1) := by decide +kernel
theorem ef_rm4_2lt (m : MethodId)  : entryFrame m #[(.int (2 : Int32)), (.int (-1 : Int32))] 2 = mkF m 0 #[.val (.int (2 : Int32)), .val (.int (-1 : Int32))] [] := by first | (simp [entryFrame, mkF, argsToLocals, Value.category]; done) | rfl
def Q4_2lt (Z : State)  (h0 : Heap) (n0 : Nat) (v : Option Value) (h : Heap) (L : List Loc) : Prop := v = some (.int (1 : Int32)) ∧ Fr n0 L ∧ h = h0
set_option maxRecDepth 65536 in
set_option maxHeartbeats 40000000 in
theorem rm4_2lt (l : Launch) (Z : State) (a0 : Array Value) (hw : ∀ d ∈ tables_1, d.before a0 Z = true) (ws : List Jvm.Cond)  (h0 : Heap) (n0 : Nat) (Z0 : n0 ≤ h0.size) :
    MetFree l mn4 (head1 (Jvm.Cond.code mn4 method_3_code 2 (some .boolean) :: ws) ({ frames := 0, cells := 0, slots := 0, locals := 0 } : Room)) (fun a U => a = #[(.int (2 : Int32)), (.int (-1 : Int32))] ∧ Z.Warmed39 U.vm ∧ U.heap = h0) (fun _ _ _ _ _ => True) (fun _ U o U' => ∃ v L, o = .returned v ∧ Q4_2lt Z  h0 n0 v U'.heap L ∧ FrameEnd U o U' L ({ frames := 0, cells := 0, slots := 0, locals := 0 } : Room).cells ({ frames := 0, cells := 0, slots := 0, locals := 0 } : Room).slots) := by
  refine MetFree.of_bodySF (plainFor_of_name pn_1) hisR ?_
  intro p e s m args below meth c s₁ Bd hml0 hP hK
  obtain ⟨rfl, hZ, hh⟩ := hP
  have hx := Bd.exec
  have hby := Bd.bytes
  have hml : c.maxLocals = 2 := hml0
  have hown : s.vm.findClass "com/example/reckonmill/reckonmill/lib/model/tree/ComparisonHoldsPinLaw" = some m.cls := findClass_of_methodNamed Bd.named
  have hnm := (name_of_methodNamed Bd.named Bd.method).1
  have X0 : Stand p l e ({ frames := 0, cells := 0, slots := 0, locals := 0 } : Room) s m #[(.int (2 : Int32)), (.int (-1 : Int32))] below meth c s₁ [] 0 0 := Stand.of_body Bd
  have e0 : s₁.heap = h0 := by rw [← hh, Bd.state]; rfl
  have N0 := Fr.nil n0
  show own_Ends p e below s (Q4_2lt Z  h0 n0) _ _ s₁ _
  rw [ef_rm4_2lt m ]
  refine own_go (T' := s₁) (f' := (mkF m 30 #[.val (.int (2 : Int32)), .val (.int (-1 : Int32))] [(.int (2 : Int32))])) (fun _ k => XS.iloadN X0.here hx rfl (hb hby d4_0) rfl (XS.ifYes X0.here hx rfl (pc0 := 1) (pc' := 14) rfl (hb hby d4_1) rfl ((if0 _ _).trans (feq (by decide : ¬ ((2 : Int32) = (0 : Int32)))).2) (by decide) (by decide) (XS.iloadN X0.here hx rfl (hb hby d4_14) rfl (XS.iconst X0.here hx rfl (hb hby d4_15) (XS.icmpYes X0.here hx rfl (pc0 := 16) (pc' := 29) rfl (hb hby d4_16) rfl (feq (by decide : ¬ ((2 : Int32) = (1 : Int32)))).2 (by decide) (by decide) (XS.iloadN X0.here hx rfl (hb hby d4_29) rfl k)))))) ?_
  refine own_go (T' := s₁) (f' := (mkF m 43 #[.val (.int (2 : Int32)), .val (.int (-1 : Int32))] [(.int (1 : Int32))])) (fun _ k => XS.iconst X0.here hx rfl (hb hby d4_30) (XS.icmpNo X0.here hx rfl (hb hby d4_31) rfl (teq (by decide : ((2 : Int32) = (2 : Int32)))).2 (XS.iloadN X0.here hx rfl (hb hby d4_34) rfl (XS.ifNo X0.here hx rfl (hb hby d4_35) rfl ((if0 _ _).trans (tlt (by decide : ((-1 : Int32) < (0 : Int32)))).2.1) (XS.iconst X0.here hx rfl (hb hby d4_38) (XS.goto X0.here hx rfl (pc0 := 39) (pc' := 43) rfl (hb hby d4_39) (by decide) (by decide) k)))))) ?_
  refine own_ret X0 (v := some (.int (1 : Int32))) (fun h => by rw [Bd.returns] at h; cases h) Bd.notSynchronized (fun fs hr => retN X0 hx (t := .boolean) Bd.returns (by simp) (hb hby d4_43) hr) ?_ (by decide) (by decide)
  show Q4_2lt Z  h0 n0 _ s₁.heap _
  exact ⟨rfl, N0, e0⟩
theorem d4_42 : decode method_3_code 42 = .ok (.iconst 0, 1) := by decide +kernel
theorem ef_rm4_2eq (m : MethodId)  : entryFrame m #[(.int (2 : Int32)), (.int (0 : Int32))] 2 = mkF m 0 #[.val (.int (2 : Int32)), .val (.int (0 : Int32))] [] := by first | (simp [entryFrame, mkF, argsToLocals, Value.category]; done) | rfl
def Q4_2eq (Z : State)  (h0 : Heap) (n0 : Nat) (v : Option Value) (h : Heap) (L : List Loc) : Prop := v = some (.int (0 : Int32)) ∧ Fr n0 L ∧ h = h0
set_option maxRecDepth 65536 in
set_option maxHeartbeats 40000000 in
theorem rm4_2eq (l : Launch) (Z : State) (a0 : Array Value) (hw : ∀ d ∈ tables_1, d.before a0 Z = true) (ws : List Jvm.Cond)  (h0 : Heap) (n0 : Nat) (Z0 : n0 ≤ h0.size) :
    MetFree l mn4 (head1 (Jvm.Cond.code mn4 method_3_code 2 (some .boolean) :: ws) ({ frames := 0, cells := 0, slots := 0, locals := 0 } : Room)) (fun a U => a = #[(.int (2 : Int32)), (.int (0 : Int32))] ∧ Z.Warmed39 U.vm ∧ U.heap = h0) (fun _ _ _ _ _ => True) (fun _ U o U' => ∃ v L, o = .returned v ∧ Q4_2eq Z  h0 n0 v U'.heap L ∧ FrameEnd U o U' L ({ frames := 0, cells := 0, slots := 0, locals := 0 } : Room).cells ({ frames := 0, cells := 0, slots := 0, locals := 0 } : Room).slots) := by
  refine MetFree.of_bodySF (plainFor_of_name pn_1) hisR ?_
  intro p e s m args below meth c s₁ Bd hml0 hP hK
  obtain ⟨rfl, hZ, hh⟩ := hP
  have hx := Bd.exec
  have hby := Bd.bytes
  have hml : c.maxLocals = 2 := hml0
  have hown : s.vm.findClass "com/example/reckonmill/reckonmill/lib/model/tree/ComparisonHoldsPinLaw" = some m.cls := findClass_of_methodNamed Bd.named
  have hnm := (name_of_methodNamed Bd.named Bd.method).1
  have X0 : Stand p l e ({ frames := 0, cells := 0, slots := 0, locals := 0 } : Room) s m #[(.int (2 : Int32)), (.int (0 : Int32))] below meth c s₁ [] 0 0 := Stand.of_body Bd
  have e0 : s₁.heap = h0 := by rw [← hh, Bd.state]; rfl
  have N0 := Fr.nil n0
  show own_Ends p e below s (Q4_2eq Z  h0 n0) _ _ s₁ _
  rw [ef_rm4_2eq m ]
  refine own_go (T' := s₁) (f' := (mkF m 30 #[.val (.int (2 : Int32)), .val (.int (0 : Int32))] [(.int (2 : Int32))])) (fun _ k => XS.iloadN X0.here hx rfl (hb hby d4_0) rfl (XS.ifYes X0.here hx rfl (pc0 := 1) (pc' := 14) rfl (hb hby d4_1) rfl ((if0 _ _).trans (feq (by decide : ¬ ((2 : Int32) = (0 : Int32)))).2) (by decide) (by decide) (XS.iloadN X0.here hx rfl (hb hby d4_14) rfl (XS.iconst X0.here hx rfl (hb hby d4_15) (XS.icmpYes X0.here hx rfl (pc0 := 16) (pc' := 29) rfl (hb hby d4_16) rfl (feq (by decide : ¬ ((2 : Int32) = (1 : Int32)))).2 (by decide) (by decide) (XS.iloadN X0.here hx rfl (hb hby d4_29) rfl k)))))) ?_
  refine own_go (T' := s₁) (f' := (mkF m 43 #[.val (.int (2 : Int32)), .val (.int (0 : Int32))] [(.int (0 : Int32))])) (fun _ k => XS.iconst X0.here hx rfl (hb hby d4_30) (XS.icmpNo X0.here hx rfl (hb hby d4_31) rfl (teq (by decide : ((2 : Int32) = (2 : Int32)))).2 (XS.iloadN X0.here hx rfl (hb hby d4_34) rfl (XS.ifYes X0.here hx rfl (pc0 := 35) (pc' := 42) rfl (hb hby d4_35) rfl ((if0 _ _).trans (flt (by decide : ¬ ((0 : Int32) < (0 : Int32)))).2.1) (by decide) (by decide) (XS.iconst X0.here hx rfl (hb hby d4_42) k))))) ?_
  refine own_ret X0 (v := some (.int (0 : Int32))) (fun h => by rw [Bd.returns] at h; cases h) Bd.notSynchronized (fun fs hr => retN X0 hx (t := .boolean) Bd.returns (by simp) (hb hby d4_43) hr) ?_ (by decide) (by decide)
  show Q4_2eq Z  h0 n0 _ s₁.heap _
  exact ⟨rfl, N0, e0⟩
theorem ef_rm4_2gt (m : MethodId)  : entryFrame m #[(.int (2 : Int32)), (.int (1 : Int32))] 2 = mkF m 0 #[.val (.int (2 : Int32)), .val (.int (1 : Int32))] [] := by first | (simp [entryFrame, mkF, argsToLocals, Value.category]; done) | rfl
def Q4_2gt (Z : State)  (h0 : Heap) (n0 : Nat) (v : Option Value) (h : Heap) (L : List Loc) : Prop := v = some (.int (0 : Int32)) ∧ Fr n0 L ∧ h = h0
set_option maxRecDepth 65536 in
set_option maxHeartbeats 40000000 in
theorem rm4_2gt (l : Launch) (Z : State) (a0 : Array Value) (hw : ∀ d ∈ tables_1, d.before a0 Z = true) (ws : List Jvm.Cond)  (h0 : Heap) (n0 : Nat) (Z0 : n0 ≤ h0.size) :
    MetFree l mn4 (head1 (Jvm.Cond.code mn4 method_3_code 2 (some .boolean) :: ws) ({ frames := 0, cells := 0, slots := 0, locals := 0 } : Room)) (fun a U => a = #[(.int (2 : Int32)), (.int (1 : Int32))] ∧ Z.Warmed39 U.vm ∧ U.heap = h0) (fun _ _ _ _ _ => True) (fun _ U o U' => ∃ v L, o = .returned v ∧ Q4_2gt Z  h0 n0 v U'.heap L ∧ FrameEnd U o U' L ({ frames := 0, cells := 0, slots := 0, locals := 0 } : Room).cells ({ frames := 0, cells := 0, slots := 0, locals := 0 } : Room).slots) := by
  refine MetFree.of_bodySF (plainFor_of_name pn_1) hisR ?_
  intro p e s m args below meth c s₁ Bd hml0 hP hK
  obtain ⟨rfl, hZ, hh⟩ := hP
  have hx := Bd.exec
  have hby := Bd.bytes
  have hml : c.maxLocals = 2 := hml0
  have hown : s.vm.findClass "com/example/reckonmill/reckonmill/lib/model/tree/ComparisonHoldsPinLaw" = some m.cls := findClass_of_methodNamed Bd.named
  have hnm := (name_of_methodNamed Bd.named Bd.method).1
  have X0 : Stand p l e ({ frames := 0, cells := 0, slots := 0, locals := 0 } : Room) s m #[(.int (2 : Int32)), (.int (1 : Int32))] below meth c s₁ [] 0 0 := Stand.of_body Bd
  have e0 : s₁.heap = h0 := by rw [← hh, Bd.state]; rfl
  have N0 := Fr.nil n0
  show own_Ends p e below s (Q4_2gt Z  h0 n0) _ _ s₁ _
  rw [ef_rm4_2gt m ]
  refine own_go (T' := s₁) (f' := (mkF m 30 #[.val (.int (2 : Int32)), .val (.int (1 : Int32))] [(.int (2 : Int32))])) (fun _ k => XS.iloadN X0.here hx rfl (hb hby d4_0) rfl (XS.ifYes X0.here hx rfl (pc0 := 1) (pc' := 14) rfl (hb hby d4_1) rfl ((if0 _ _).trans (feq (by decide : ¬ ((2 : Int32) = (0 : Int32)))).2) (by decide) (by decide) (XS.iloadN X0.here hx rfl (hb hby d4_14) rfl (XS.iconst X0.here hx rfl (hb hby d4_15) (XS.icmpYes X0.here hx rfl (pc0 := 16) (pc' := 29) rfl (hb hby d4_16) rfl (feq (by decide : ¬ ((2 : Int32) = (1 : Int32)))).2 (by decide) (by decide) (XS.iloadN X0.here hx rfl (hb hby d4_29) rfl k)))))) ?_
  refine own_go (T' := s₁) (f' := (mkF m 43 #[.val (.int (2 : Int32)), .val (.int (1 : Int32))] [(.int (0 : Int32))])) (fun _ k => XS.iconst X0.here hx rfl (hb hby d4_30) (XS.icmpNo X0.here hx rfl (hb hby d4_31) rfl (teq (by decide : ((2 : Int32) = (2 : Int32)))).2 (XS.iloadN X0.here hx rfl (hb hby d4_34) rfl (XS.ifYes X0.here hx rfl (pc0 := 35) (pc' := 42) rfl (hb hby d4_35) rfl ((if0 _ _).trans (flt (by decide : ¬ ((1 : Int32) < (0 : Int32)))).2.1) (by decide) (by decide) (XS.iconst X0.here hx rfl (hb hby d4_42) k))))) ?_
  refine own_ret X0 (v := some (.int (0 : Int32))) (fun h => by rw [Bd.returns] at h; cases h) Bd.notSynchronized (fun fs hr => retN X0 hx (t := .boolean) Bd.returns (by simp) (hb hby d4_43) hr) ?_ (by decide) (by decide)
  show Q4_2gt Z  h0 n0 _ s₁.heap _
  exact ⟨rfl, N0, e0⟩
theorem d4_44 : decode method_3_code 44 = .ok (.iload_n 0, 1) := by decide +kernel
theorem d4_45 : decode method_3_code 45 = .ok (.iconst 3, 1) := by decide +kernel
theorem d4_46 : decode method_3_code 46 = .ok (.if_icmp .ne 13, 3) := by decide +kernel
theorem d4_49 : decode method_3_code 49 = .ok (.iload_n 1, 1) := by decide +kernel
theorem d4_50 : decode method_3_code 50 = .ok (.ifCond .gt 7, 3) := by decide +kernel
theorem d4_53 : decode method_3_code 53 = .ok (.iconst 1, 1) := by decide +kernel
theorem d4_54 : decode method_3_code 54 = .ok (.goto 4, 3) := by decide +kernel
theorem d4_58 : decode method_3_code 58 = .ok (.ireturn, 1) := by decide +kernel
theorem ef_rm4_3lt (m : MethodId)  : entryFrame m #[(.int (3 : Int32)), (.int (-1 : Int32))] 2 = mkF m 0 #[.val (.int (3 : Int32)), .val (.int (-1 : Int32))] [] := by first | (simp [entryFrame, mkF, argsToLocals, Value.category]; done) | rfl
def Q4_3lt (Z : State)  (h0 : Heap) (n0 : Nat) (v : Option Value) (h : Heap) (L : List Loc) : Prop := v = some (.int (1 : Int32)) ∧ Fr n0 L ∧ h = h0
set_option maxRecDepth 65536 in
set_option maxHeartbeats 40000000 in
theorem rm4_3lt (l : Launch) (Z : State) (a0 : Array Value) (hw : ∀ d ∈ tables_1, d.before a0 Z = true) (ws : List Jvm.Cond)  (h0 : Heap) (n0 : Nat) (Z0 : n0 ≤ h0.size) :
    MetFree l mn4 (head1 (Jvm.Cond.code mn4 method_3_code 2 (some .boolean) :: ws) ({ frames := 0, cells := 0, slots := 0, locals := 0 } : Room)) (fun a U => a = #[(.int (3 : Int32)), (.int (-1 : Int32))] ∧ Z.Warmed39 U.vm ∧ U.heap = h0) (fun _ _ _ _ _ => True) (fun _ U o U' => ∃ v L, o = .returned v ∧ Q4_3lt Z  h0 n0 v U'.heap L ∧ FrameEnd U o U' L ({ frames := 0, cells := 0, slots := 0, locals := 0 } : Room).cells ({ frames := 0, cells := 0, slots := 0, locals := 0 } : Room).slots) := by
  refine MetFree.of_bodySF (plainFor_of_name pn_1) hisR ?_
  intro p e s m args below meth c s₁ Bd hml0 hP hK
  obtain ⟨rfl, hZ, hh⟩ := hP
  have hx := Bd.exec
  have hby := Bd.bytes
  have hml : c.maxLocals = 2 := hml0
  have hown : s.vm.findClass "com/example/reckonmill/reckonmill/lib/model/tree/ComparisonHoldsPinLaw" = some m.cls := findClass_of_methodNamed Bd.named
  have hnm := (name_of_methodNamed Bd.named Bd.method).1
  have X0 : Stand p l e ({ frames := 0, cells := 0, slots := 0, locals := 0 } : Room) s m #[(.int (3 : Int32)), (.int (-1 : Int32))] below meth c s₁ [] 0 0 := Stand.of_body Bd
  have e0 : s₁.heap = h0 := by rw [← hh, Bd.state]; rfl
  have N0 := Fr.nil n0
  show own_Ends p e below s (Q4_3lt Z  h0 n0) _ _ s₁ _
  rw [ef_rm4_3lt m ]
  refine own_go (T' := s₁) (f' := (mkF m 30 #[.val (.int (3 : Int32)), .val (.int (-1 : Int32))] [(.int (3 : Int32))])) (fun _ k => XS.iloadN X0.here hx rfl (hb hby d4_0) rfl (XS.ifYes X0.here hx rfl (pc0 := 1) (pc' := 14) rfl (hb hby d4_1) rfl ((if0 _ _).trans (feq (by decide : ¬ ((3 : Int32) = (0 : Int32)))).2) (by decide) (by decide) (XS.iloadN X0.here hx rfl (hb hby d4_14) rfl (XS.iconst X0.here hx rfl (hb hby d4_15) (XS.icmpYes X0.here hx rfl (pc0 := 16) (pc' := 29) rfl (hb hby d4_16) rfl (feq (by decide : ¬ ((3 : Int32) = (1 : Int32)))).2 (by decide) (by decide) (XS.iloadN X0.here hx rfl (hb hby d4_29) rfl k)))))) ?_
  refine own_go (T' := s₁) (f' := (mkF m 50 #[.val (.int (3 : Int32)), .val (.int (-1 : Int32))] [(.int (-1 : Int32))])) (fun _ k => XS.iconst X0.here hx rfl (hb hby d4_30) (XS.icmpYes X0.here hx rfl (pc0 := 31) (pc' := 44) rfl (hb hby d4_31) rfl (feq (by decide : ¬ ((3 : Int32) = (2 : Int32)))).2 (by decide) (by decide) (XS.iloadN X0.here hx rfl (hb hby d4_44) rfl (XS.iconst X0.here hx rfl (hb hby d4_45) (XS.icmpNo X0.here hx rfl (hb hby d4_46) rfl (teq (by decide : ((3 : Int32) = (3 : Int32)))).2 (XS.iloadN X0.here hx rfl (hb hby d4_49) rfl k)))))) ?_
  refine own_go (T' := s₁) (f' := (mkF m 58 #[.val (.int (3 : Int32)), .val (.int (-1 : Int32))] [(.int (1 : Int32))])) (fun _ k => XS.ifNo X0.here hx rfl (hb hby d4_50) rfl ((if0 _ _).trans (flt (by decide : ¬ ((0 : Int32) < (-1 : Int32)))).2.2.1) (XS.iconst X0.here hx rfl (hb hby d4_53) (XS.goto X0.here hx rfl (pc0 := 54) (pc' := 58) rfl (hb hby d4_54) (by decide) (by decide) k))) ?_
  refine own_ret X0 (v := some (.int (1 : Int32))) (fun h => by rw [Bd.returns] at h; cases h) Bd.notSynchronized (fun fs hr => retN X0 hx (t := .boolean) Bd.returns (by simp) (hb hby d4_58) hr) ?_ (by decide) (by decide)
  show Q4_3lt Z  h0 n0 _ s₁.heap _
  exact ⟨rfl, N0, e0⟩
theorem ef_rm4_3eq (m : MethodId)  : entryFrame m #[(.int (3 : Int32)), (.int (0 : Int32))] 2 = mkF m 0 #[.val (.int (3 : Int32)), .val (.int (0 : Int32))] [] := by first | (simp [entryFrame, mkF, argsToLocals, Value.category]; done) | rfl
def Q4_3eq (Z : State)  (h0 : Heap) (n0 : Nat) (v : Option Value) (h : Heap) (L : List Loc) : Prop := v = some (.int (1 : Int32)) ∧ Fr n0 L ∧ h = h0
set_option maxRecDepth 65536 in
set_option maxHeartbeats 40000000 in
theorem rm4_3eq (l : Launch) (Z : State) (a0 : Array Value) (hw : ∀ d ∈ tables_1, d.before a0 Z = true) (ws : List Jvm.Cond)  (h0 : Heap) (n0 : Nat) (Z0 : n0 ≤ h0.size) :
    MetFree l mn4 (head1 (Jvm.Cond.code mn4 method_3_code 2 (some .boolean) :: ws) ({ frames := 0, cells := 0, slots := 0, locals := 0 } : Room)) (fun a U => a = #[(.int (3 : Int32)), (.int (0 : Int32))] ∧ Z.Warmed39 U.vm ∧ U.heap = h0) (fun _ _ _ _ _ => True) (fun _ U o U' => ∃ v L, o = .returned v ∧ Q4_3eq Z  h0 n0 v U'.heap L ∧ FrameEnd U o U' L ({ frames := 0, cells := 0, slots := 0, locals := 0 } : Room).cells ({ frames := 0, cells := 0, slots := 0, locals := 0 } : Room).slots) := by
  refine MetFree.of_bodySF (plainFor_of_name pn_1) hisR ?_
  intro p e s m args below meth c s₁ Bd hml0 hP hK
  obtain ⟨rfl, hZ, hh⟩ := hP
  have hx := Bd.exec
  have hby := Bd.bytes
  have hml : c.maxLocals = 2 := hml0
  have hown : s.vm.findClass "com/example/reckonmill/reckonmill/lib/model/tree/ComparisonHoldsPinLaw" = some m.cls := findClass_of_methodNamed Bd.named
  have hnm := (name_of_methodNamed Bd.named Bd.method).1
  have X0 : Stand p l e ({ frames := 0, cells := 0, slots := 0, locals := 0 } : Room) s m #[(.int (3 : Int32)), (.int (0 : Int32))] below meth c s₁ [] 0 0 := Stand.of_body Bd
  have e0 : s₁.heap = h0 := by rw [← hh, Bd.state]; rfl
  have N0 := Fr.nil n0
  show own_Ends p e below s (Q4_3eq Z  h0 n0) _ _ s₁ _
  rw [ef_rm4_3eq m ]
  refine own_go (T' := s₁) (f' := (mkF m 30 #[.val (.int (3 : Int32)), .val (.int (0 : Int32))] [(.int (3 : Int32))])) (fun _ k => XS.iloadN X0.here hx rfl (hb hby d4_0) rfl (XS.ifYes X0.here hx rfl (pc0 := 1) (pc' := 14) rfl (hb hby d4_1) rfl ((if0 _ _).trans (feq (by decide : ¬ ((3 : Int32) = (0 : Int32)))).2) (by decide) (by decide) (XS.iloadN X0.here hx rfl (hb hby d4_14) rfl (XS.iconst X0.here hx rfl (hb hby d4_15) (XS.icmpYes X0.here hx rfl (pc0 := 16) (pc' := 29) rfl (hb hby d4_16) rfl (feq (by decide : ¬ ((3 : Int32) = (1 : Int32)))).2 (by decide) (by decide) (XS.iloadN X0.here hx rfl (hb hby d4_29) rfl k)))))) ?_
  refine own_go (T' := s₁) (f' := (mkF m 50 #[.val (.int (3 : Int32)), .val (.int (0 : Int32))] [(.int (0 : Int32))])) (fun _ k => XS.iconst X0.here hx rfl (hb hby d4_30) (XS.icmpYes X0.here hx rfl (pc0 := 31) (pc' := 44) rfl (hb hby d4_31) rfl (feq (by decide : ¬ ((3 : Int32) = (2 : Int32)))).2 (by decide) (by decide) (XS.iloadN X0.here hx rfl (hb hby d4_44) rfl (XS.iconst X0.here hx rfl (hb hby d4_45) (XS.icmpNo X0.here hx rfl (hb hby d4_46) rfl (teq (by decide : ((3 : Int32) = (3 : Int32)))).2 (XS.iloadN X0.here hx rfl (hb hby d4_49) rfl k)))))) ?_
  refine own_go (T' := s₁) (f' := (mkF m 58 #[.val (.int (3 : Int32)), .val (.int (0 : Int32))] [(.int (1 : Int32))])) (fun _ k => XS.ifNo X0.here hx rfl (hb hby d4_50) rfl ((if0 _ _).trans (flt (by decide : ¬ ((0 : Int32) < (0 : Int32)))).2.2.1) (XS.iconst X0.here hx rfl (hb hby d4_53) (XS.goto X0.here hx rfl (pc0 := 54) (pc' := 58) rfl (hb hby d4_54) (by decide) (by decide) k))) ?_
  refine own_ret X0 (v := some (.int (1 : Int32))) (fun h => by rw [Bd.returns] at h; cases h) Bd.notSynchronized (fun fs hr => retN X0 hx (t := .boolean) Bd.returns (by simp) (hb hby d4_58) hr) ?_ (by decide) (by decide)
  show Q4_3eq Z  h0 n0 _ s₁.heap _
  exact ⟨rfl, N0, e0⟩
theorem d4_57 : decode method_3_code 57 = .ok (.iconst 0, 1) := by decide +kernel
theorem ef_rm4_3gt (m : MethodId)  : entryFrame m #[(.int (3 : Int32)), (.int (1 : Int32))] 2 = mkF m 0 #[.val (.int (3 : Int32)), .val (.int (1 : Int32))] [] := by first | (simp [entryFrame, mkF, argsToLocals, Value.category]; done) | rfl
def Q4_3gt (Z : State)  (h0 : Heap) (n0 : Nat) (v : Option Value) (h : Heap) (L : List Loc) : Prop := v = some (.int (0 : Int32)) ∧ Fr n0 L ∧ h = h0
set_option maxRecDepth 65536 in
set_option maxHeartbeats 40000000 in
theorem rm4_3gt (l : Launch) (Z : State) (a0 : Array Value) (hw : ∀ d ∈ tables_1, d.before a0 Z = true) (ws : List Jvm.Cond)  (h0 : Heap) (n0 : Nat) (Z0 : n0 ≤ h0.size) :
    MetFree l mn4 (head1 (Jvm.Cond.code mn4 method_3_code 2 (some .boolean) :: ws) ({ frames := 0, cells := 0, slots := 0, locals := 0 } : Room)) (fun a U => a = #[(.int (3 : Int32)), (.int (1 : Int32))] ∧ Z.Warmed39 U.vm ∧ U.heap = h0) (fun _ _ _ _ _ => True) (fun _ U o U' => ∃ v L, o = .returned v ∧ Q4_3gt Z  h0 n0 v U'.heap L ∧ FrameEnd U o U' L ({ frames := 0, cells := 0, slots := 0, locals := 0 } : Room).cells ({ frames := 0, cells := 0, slots := 0, locals := 0 } : Room).slots) := by
  refine MetFree.of_bodySF (plainFor_of_name pn_1) hisR ?_
  intro p e s m args below meth c s₁ Bd hml0 hP hK
  obtain ⟨rfl, hZ, hh⟩ := hP
  have hx := Bd.exec
  have hby := Bd.bytes
  have hml : c.maxLocals = 2 := hml0
  have hown : s.vm.findClass "com/example/reckonmill/reckonmill/lib/model/tree/ComparisonHoldsPinLaw" = some m.cls := findClass_of_methodNamed Bd.named
  have hnm := (name_of_methodNamed Bd.named Bd.method).1
  have X0 : Stand p l e ({ frames := 0, cells := 0, slots := 0, locals := 0 } : Room) s m #[(.int (3 : Int32)), (.int (1 : Int32))] below meth c s₁ [] 0 0 := Stand.of_body Bd
  have e0 : s₁.heap = h0 := by rw [← hh, Bd.state]; rfl
  have N0 := Fr.nil n0
  show own_Ends p e below s (Q4_3gt Z  h0 n0) _ _ s₁ _
  rw [ef_rm4_3gt m ]
  refine own_go (T' := s₁) (f' := (mkF m 30 #[.val (.int (3 : Int32)), .val (.int (1 : Int32))] [(.int (3 : Int32))])) (fun _ k => XS.iloadN X0.here hx rfl (hb hby d4_0) rfl (XS.ifYes X0.here hx rfl (pc0 := 1) (pc' := 14) rfl (hb hby d4_1) rfl ((if0 _ _).trans (feq (by decide : ¬ ((3 : Int32) = (0 : Int32)))).2) (by decide) (by decide) (XS.iloadN X0.here hx rfl (hb hby d4_14) rfl (XS.iconst X0.here hx rfl (hb hby d4_15) (XS.icmpYes X0.here hx rfl (pc0 := 16) (pc' := 29) rfl (hb hby d4_16) rfl (feq (by decide : ¬ ((3 : Int32) = (1 : Int32)))).2 (by decide) (by decide) (XS.iloadN X0.here hx rfl (hb hby d4_29) rfl k)))))) ?_
  refine own_go (T' := s₁) (f' := (mkF m 50 #[.val (.int (3 : Int32)), .val (.int (1 : Int32))] [(.int (1 : Int32))])) (fun _ k => XS.iconst X0.here hx rfl (hb hby d4_30) (XS.icmpYes X0.here hx rfl (pc0 := 31) (pc' := 44) rfl (hb hby d4_31) rfl (feq (by decide : ¬ ((3 : Int32) = (2 : Int32)))).2 (by decide) (by decide) (XS.iloadN X0.here hx rfl (hb hby d4_44) rfl (XS.iconst X0.here hx rfl (hb hby d4_45) (XS.icmpNo X0.here hx rfl (hb hby d4_46) rfl (teq (by decide : ((3 : Int32) = (3 : Int32)))).2 (XS.iloadN X0.here hx rfl (hb hby d4_49) rfl k)))))) ?_
  refine own_go (T' := s₁) (f' := (mkF m 58 #[.val (.int (3 : Int32)), .val (.int (1 : Int32))] [(.int (0 : Int32))])) (fun _ k => XS.ifYes X0.here hx rfl (pc0 := 50) (pc' := 57) rfl (hb hby d4_50) rfl ((if0 _ _).trans (tlt (by decide : ((0 : Int32) < (1 : Int32)))).2.2.1) (by decide) (by decide) (XS.iconst X0.here hx rfl (hb hby d4_57) k)) ?_
  refine own_ret X0 (v := some (.int (0 : Int32))) (fun h => by rw [Bd.returns] at h; cases h) Bd.notSynchronized (fun fs hr => retN X0 hx (t := .boolean) Bd.returns (by simp) (hb hby d4_58) hr) ?_ (by decide) (by decide)
  show Q4_3gt Z  h0 n0 _ s₁.heap _
  exact ⟨rfl, N0, e0⟩
theorem d4_59 : decode method_3_code 59 = .ok (.iload_n 0, 1) := by decide +kernel
theorem d4_60 : decode method_3_code 60 = .ok (.iconst 4, 1) := by decide +kernel
theorem d4_61 : decode method_3_code 61 = .ok (.if_icmp .ne 13, 3) := by decide +kernel
theorem d4_64 : decode method_3_code 64 = .ok (.iload_n 1, 1) := by decide +kernel
theorem d4_65 : decode method_3_code 65 = .ok (.ifCond .le 7, 3) := by decide +kernel
theorem d4_72 : decode method_3_code 72 = .ok (.iconst 0, 1) := by decide +kernel
theorem d4_73 : decode method_3_code 73 = .ok (.ireturn, 1) := by decide +kernel
theorem ef_rm4_4lt (m : MethodId)  : entryFrame m #[(.int (4 : Int32)), (.int (-1 : Int32))] 2 = mkF m 0 #[.val (.int (4 : Int32)), .val (.int (-1 : Int32))] [] := by first | (simp [entryFrame, mkF, argsToLocals, Value.category]; done) | rfl
def Q4_4lt (Z : State)  (h0 : Heap) (n0 : Nat) (v : Option Value) (h : Heap) (L : List Loc) : Prop := v = some (.int (0 : Int32)) ∧ Fr n0 L ∧ h = h0
set_option maxRecDepth 65536 in
set_option maxHeartbeats 40000000 in
theorem rm4_4lt (l : Launch) (Z : State) (a0 : Array Value) (hw : ∀ d ∈ tables_1, d.before a0 Z = true) (ws : List Jvm.Cond)  (h0 : Heap) (n0 : Nat) (Z0 : n0 ≤ h0.size) :
    MetFree l mn4 (head1 (Jvm.Cond.code mn4 method_3_code 2 (some .boolean) :: ws) ({ frames := 0, cells := 0, slots := 0, locals := 0 } : Room)) (fun a U => a = #[(.int (4 : Int32)), (.int (-1 : Int32))] ∧ Z.Warmed39 U.vm ∧ U.heap = h0) (fun _ _ _ _ _ => True) (fun _ U o U' => ∃ v L, o = .returned v ∧ Q4_4lt Z  h0 n0 v U'.heap L ∧ FrameEnd U o U' L ({ frames := 0, cells := 0, slots := 0, locals := 0 } : Room).cells ({ frames := 0, cells := 0, slots := 0, locals := 0 } : Room).slots) := by
  refine MetFree.of_bodySF (plainFor_of_name pn_1) hisR ?_
  intro p e s m args below meth c s₁ Bd hml0 hP hK
  obtain ⟨rfl, hZ, hh⟩ := hP
  have hx := Bd.exec
  have hby := Bd.bytes
  have hml : c.maxLocals = 2 := hml0
  have hown : s.vm.findClass "com/example/reckonmill/reckonmill/lib/model/tree/ComparisonHoldsPinLaw" = some m.cls := findClass_of_methodNamed Bd.named
  have hnm := (name_of_methodNamed Bd.named Bd.method).1
  have X0 : Stand p l e ({ frames := 0, cells := 0, slots := 0, locals := 0 } : Room) s m #[(.int (4 : Int32)), (.int (-1 : Int32))] below meth c s₁ [] 0 0 := Stand.of_body Bd
  have e0 : s₁.heap = h0 := by rw [← hh, Bd.state]; rfl
  have N0 := Fr.nil n0
  show own_Ends p e below s (Q4_4lt Z  h0 n0) _ _ s₁ _
  rw [ef_rm4_4lt m ]
  refine own_go (T' := s₁) (f' := (mkF m 30 #[.val (.int (4 : Int32)), .val (.int (-1 : Int32))] [(.int (4 : Int32))])) (fun _ k => XS.iloadN X0.here hx rfl (hb hby d4_0) rfl (XS.ifYes X0.here hx rfl (pc0 := 1) (pc' := 14) rfl (hb hby d4_1) rfl ((if0 _ _).trans (feq (by decide : ¬ ((4 : Int32) = (0 : Int32)))).2) (by decide) (by decide) (XS.iloadN X0.here hx rfl (hb hby d4_14) rfl (XS.iconst X0.here hx rfl (hb hby d4_15) (XS.icmpYes X0.here hx rfl (pc0 := 16) (pc' := 29) rfl (hb hby d4_16) rfl (feq (by decide : ¬ ((4 : Int32) = (1 : Int32)))).2 (by decide) (by decide) (XS.iloadN X0.here hx rfl (hb hby d4_29) rfl k)))))) ?_
  refine own_go (T' := s₁) (f' := (mkF m 60 #[.val (.int (4 : Int32)), .val (.int (-1 : Int32))] [(.int (4 : Int32))])) (fun _ k => XS.iconst X0.here hx rfl (hb hby d4_30) (XS.icmpYes X0.here hx rfl (pc0 := 31) (pc' := 44) rfl (hb hby d4_31) rfl (feq (by decide : ¬ ((4 : Int32) = (2 : Int32)))).2 (by decide) (by decide) (XS.iloadN X0.here hx rfl (hb hby d4_44) rfl (XS.iconst X0.here hx rfl (hb hby d4_45) (XS.icmpYes X0.here hx rfl (pc0 := 46) (pc' := 59) rfl (hb hby d4_46) rfl (feq (by decide : ¬ ((4 : Int32) = (3 : Int32)))).2 (by decide) (by decide) (XS.iloadN X0.here hx rfl (hb hby d4_59) rfl k)))))) ?_
  refine own_go (T' := s₁) (f' := (mkF m 73 #[.val (.int (4 : Int32)), .val (.int (-1 : Int32))] [(.int (0 : Int32))])) (fun _ k => XS.iconst X0.here hx rfl (hb hby d4_60) (XS.icmpNo X0.here hx rfl (hb hby d4_61) rfl (teq (by decide : ((4 : Int32) = (4 : Int32)))).2 (XS.iloadN X0.here hx rfl (hb hby d4_64) rfl (XS.ifYes X0.here hx rfl (pc0 := 65) (pc' := 72) rfl (hb hby d4_65) rfl ((if0 _ _).trans (flt (by decide : ¬ ((0 : Int32) < (-1 : Int32)))).2.2.2) (by decide) (by decide) (XS.iconst X0.here hx rfl (hb hby d4_72) k))))) ?_
  refine own_ret X0 (v := some (.int (0 : Int32))) (fun h => by rw [Bd.returns] at h; cases h) Bd.notSynchronized (fun fs hr => retN X0 hx (t := .boolean) Bd.returns (by simp) (hb hby d4_73) hr) ?_ (by decide) (by decide)
  show Q4_4lt Z  h0 n0 _ s₁.heap _
  exact ⟨rfl, N0, e0⟩
theorem ef_rm4_4eq (m : MethodId)  : entryFrame m #[(.int (4 : Int32)), (.int (0 : Int32))] 2 = mkF m 0 #[.val (.int (4 : Int32)), .val (.int (0 : Int32))] [] := by first | (simp [entryFrame, mkF, argsToLocals, Value.category]; done) | rfl
def Q4_4eq (Z : State)  (h0 : Heap) (n0 : Nat) (v : Option Value) (h : Heap) (L : List Loc) : Prop := v = some (.int (0 : Int32)) ∧ Fr n0 L ∧ h = h0
set_option maxRecDepth 65536 in
set_option maxHeartbeats 40000000 in
theorem rm4_4eq (l : Launch) (Z : State) (a0 : Array Value) (hw : ∀ d ∈ tables_1, d.before a0 Z = true) (ws : List Jvm.Cond)  (h0 : Heap) (n0 : Nat) (Z0 : n0 ≤ h0.size) :
    MetFree l mn4 (head1 (Jvm.Cond.code mn4 method_3_code 2 (some .boolean) :: ws) ({ frames := 0, cells := 0, slots := 0, locals := 0 } : Room)) (fun a U => a = #[(.int (4 : Int32)), (.int (0 : Int32))] ∧ Z.Warmed39 U.vm ∧ U.heap = h0) (fun _ _ _ _ _ => True) (fun _ U o U' => ∃ v L, o = .returned v ∧ Q4_4eq Z  h0 n0 v U'.heap L ∧ FrameEnd U o U' L ({ frames := 0, cells := 0, slots := 0, locals := 0 } : Room).cells ({ frames := 0, cells := 0, slots := 0, locals := 0 } : Room).slots) := by
  refine MetFree.of_bodySF (plainFor_of_name pn_1) hisR ?_
  intro p e s m args below meth c s₁ Bd hml0 hP hK
  obtain ⟨rfl, hZ, hh⟩ := hP
  have hx := Bd.exec
  have hby := Bd.bytes
  have hml : c.maxLocals = 2 := hml0
  have hown : s.vm.findClass "com/example/reckonmill/reckonmill/lib/model/tree/ComparisonHoldsPinLaw" = some m.cls := findClass_of_methodNamed Bd.named
  have hnm := (name_of_methodNamed Bd.named Bd.method).1
  have X0 : Stand p l e ({ frames := 0, cells := 0, slots := 0, locals := 0 } : Room) s m #[(.int (4 : Int32)), (.int (0 : Int32))] below meth c s₁ [] 0 0 := Stand.of_body Bd
  have e0 : s₁.heap = h0 := by rw [← hh, Bd.state]; rfl
  have N0 := Fr.nil n0
  show own_Ends p e below s (Q4_4eq Z  h0 n0) _ _ s₁ _
  rw [ef_rm4_4eq m ]
  refine own_go (T' := s₁) (f' := (mkF m 30 #[.val (.int (4 : Int32)), .val (.int (0 : Int32))] [(.int (4 : Int32))])) (fun _ k => XS.iloadN X0.here hx rfl (hb hby d4_0) rfl (XS.ifYes X0.here hx rfl (pc0 := 1) (pc' := 14) rfl (hb hby d4_1) rfl ((if0 _ _).trans (feq (by decide : ¬ ((4 : Int32) = (0 : Int32)))).2) (by decide) (by decide) (XS.iloadN X0.here hx rfl (hb hby d4_14) rfl (XS.iconst X0.here hx rfl (hb hby d4_15) (XS.icmpYes X0.here hx rfl (pc0 := 16) (pc' := 29) rfl (hb hby d4_16) rfl (feq (by decide : ¬ ((4 : Int32) = (1 : Int32)))).2 (by decide) (by decide) (XS.iloadN X0.here hx rfl (hb hby d4_29) rfl k)))))) ?_
  refine own_go (T' := s₁) (f' := (mkF m 60 #[.val (.int (4 : Int32)), .val (.int (0 : Int32))] [(.int (4 : Int32))])) (fun _ k => XS.iconst X0.here hx rfl (hb hby d4_30) (XS.icmpYes X0.here hx rfl (pc0 := 31) (pc' := 44) rfl (hb hby d4_31) rfl (feq (by decide : ¬ ((4 : Int32) = (2 : Int32)))).2 (by decide) (by decide) (XS.iloadN X0.here hx rfl (hb hby d4_44) rfl (XS.iconst X0.here hx rfl (hb hby d4_45) (XS.icmpYes X0.here hx rfl (pc0 := 46) (pc' := 59) rfl (hb hby d4_46) rfl (feq (by decide : ¬ ((4 : Int32) = (3 : Int32)))).2 (by decide) (by decide) (XS.iloadN X0.here hx rfl (hb hby d4_59) rfl k)))))) ?_
  refine own_go (T' := s₁) (f' := (mkF m 73 #[.val (.int (4 : Int32)), .val (.int (0 : Int32))] [(.int (0 : Int32))])) (fun _ k => XS.iconst X0.here hx rfl (hb hby d4_60) (XS.icmpNo X0.here hx rfl (hb hby d4_61) rfl (teq (by decide : ((4 : Int32) = (4 : Int32)))).2 (XS.iloadN X0.here hx rfl (hb hby d4_64) rfl (XS.ifYes X0.here hx rfl (pc0 := 65) (pc' := 72) rfl (hb hby d4_65) rfl ((if0 _ _).trans (flt (by decide : ¬ ((0 : Int32) < (0 : Int32)))).2.2.2) (by decide) (by decide) (XS.iconst X0.here hx rfl (hb hby d4_72) k))))) ?_
  refine own_ret X0 (v := some (.int (0 : Int32))) (fun h => by rw [Bd.returns] at h; cases h) Bd.notSynchronized (fun fs hr => retN X0 hx (t := .boolean) Bd.returns (by simp) (hb hby d4_73) hr) ?_ (by decide) (by decide)
  show Q4_4eq Z  h0 n0 _ s₁.heap _
  exact ⟨rfl, N0, e0⟩
theorem d4_68 : decode method_3_code 68 = .ok (.iconst 1, 1) := by decide +kernel
theorem d4_69 : decode method_3_code 69 = .ok (.goto 4, 3) := by decide +kernel
theorem ef_rm4_4gt (m : MethodId)  : entryFrame m #[(.int (4 : Int32)), (.int (1 : Int32))] 2 = mkF m 0 #[.val (.int (4 : Int32)), .val (.int (1 : Int32))] [] := by first | (simp [entryFrame, mkF, argsToLocals, Value.category]; done) | rfl
def Q4_4gt (Z : State)  (h0 : Heap) (n0 : Nat) (v : Option Value) (h : Heap) (L : List Loc) : Prop := v = some (.int (1 : Int32)) ∧ Fr n0 L ∧ h = h0
set_option maxRecDepth 65536 in
set_option maxHeartbeats 40000000 in
theorem rm4_4gt (l : Launch) (Z : State) (a0 : Array Value) (hw : ∀ d ∈ tables_1, d.before a0 Z = true) (ws : List Jvm.Cond)  (h0 : Heap) (n0 : Nat) (Z0 : n0 ≤ h0.size) :
    MetFree l mn4 (head1 (Jvm.Cond.code mn4 method_3_code 2 (some .boolean) :: ws) ({ frames := 0, cells := 0, slots := 0, locals := 0 } : Room)) (fun a U => a = #[(.int (4 : Int32)), (.int (1 : Int32))] ∧ Z.Warmed39 U.vm ∧ U.heap = h0) (fun _ _ _ _ _ => True) (fun _ U o U' => ∃ v L, o = .returned v ∧ Q4_4gt Z  h0 n0 v U'.heap L ∧ FrameEnd U o U' L ({ frames := 0, cells := 0, slots := 0, locals := 0 } : Room).cells ({ frames := 0, cells := 0, slots := 0, locals := 0 } : Room).slots) := by
  refine MetFree.of_bodySF (plainFor_of_name pn_1) hisR ?_
  intro p e s m args below meth c s₁ Bd hml0 hP hK
  obtain ⟨rfl, hZ, hh⟩ := hP
  have hx := Bd.exec
  have hby := Bd.bytes
  have hml : c.maxLocals = 2 := hml0
  have hown : s.vm.findClass "com/example/reckonmill/reckonmill/lib/model/tree/ComparisonHoldsPinLaw" = some m.cls := findClass_of_methodNamed Bd.named
  have hnm := (name_of_methodNamed Bd.named Bd.method).1
  have X0 : Stand p l e ({ frames := 0, cells := 0, slots := 0, locals := 0 } : Room) s m #[(.int (4 : Int32)), (.int (1 : Int32))] below meth c s₁ [] 0 0 := Stand.of_body Bd
  have e0 : s₁.heap = h0 := by rw [← hh, Bd.state]; rfl
  have N0 := Fr.nil n0
  show own_Ends p e below s (Q4_4gt Z  h0 n0) _ _ s₁ _
  rw [ef_rm4_4gt m ]
  refine own_go (T' := s₁) (f' := (mkF m 30 #[.val (.int (4 : Int32)), .val (.int (1 : Int32))] [(.int (4 : Int32))])) (fun _ k => XS.iloadN X0.here hx rfl (hb hby d4_0) rfl (XS.ifYes X0.here hx rfl (pc0 := 1) (pc' := 14) rfl (hb hby d4_1) rfl ((if0 _ _).trans (feq (by decide : ¬ ((4 : Int32) = (0 : Int32)))).2) (by decide) (by decide) (XS.iloadN X0.here hx rfl (hb hby d4_14) rfl (XS.iconst X0.here hx rfl (hb hby d4_15) (XS.icmpYes X0.here hx rfl (pc0 := 16) (pc' := 29) rfl (hb hby d4_16) rfl (feq (by decide : ¬ ((4 : Int32) = (1 : Int32)))).2 (by decide) (by decide) (XS.iloadN X0.here hx rfl (hb hby d4_29) rfl k)))))) ?_
  refine own_go (T' := s₁) (f' := (mkF m 60 #[.val (.int (4 : Int32)), .val (.int (1 : Int32))] [(.int (4 : Int32))])) (fun _ k => XS.iconst X0.here hx rfl (hb hby d4_30) (XS.icmpYes X0.here hx rfl (pc0 := 31) (pc' := 44) rfl (hb hby d4_31) rfl (feq (by decide : ¬ ((4 : Int32) = (2 : Int32)))).2 (by decide) (by decide) (XS.iloadN X0.here hx rfl (hb hby d4_44) rfl (XS.iconst X0.here hx rfl (hb hby d4_45) (XS.icmpYes X0.here hx rfl (pc0 := 46) (pc' := 59) rfl (hb hby d4_46) rfl (feq (by decide : ¬ ((4 : Int32) = (3 : Int32)))).2 (by decide) (by decide) (XS.iloadN X0.here hx rfl (hb hby d4_59) rfl k)))))) ?_
  refine own_go (T' := s₁) (f' := (mkF m 73 #[.val (.int (4 : Int32)), .val (.int (1 : Int32))] [(.int (1 : Int32))])) (fun _ k => XS.iconst X0.here hx rfl (hb hby d4_60) (XS.icmpNo X0.here hx rfl (hb hby d4_61) rfl (teq (by decide : ((4 : Int32) = (4 : Int32)))).2 (XS.iloadN X0.here hx rfl (hb hby d4_64) rfl (XS.ifNo X0.here hx rfl (hb hby d4_65) rfl ((if0 _ _).trans (tlt (by decide : ((0 : Int32) < (1 : Int32)))).2.2.2) (XS.iconst X0.here hx rfl (hb hby d4_68) (XS.goto X0.here hx rfl (pc0 := 69) (pc' := 73) rfl (hb hby d4_69) (by decide) (by decide) k)))))) ?_
  refine own_ret X0 (v := some (.int (1 : Int32))) (fun h => by rw [Bd.returns] at h; cases h) Bd.notSynchronized (fun fs hr => retN X0 hx (t := .boolean) Bd.returns (by simp) (hb hby d4_73) hr) ?_ (by decide) (by decide)
  show Q4_4gt Z  h0 n0 _ s₁.heap _
  exact ⟨rfl, N0, e0⟩
theorem d4_74 : decode method_3_code 74 = .ok (.iload_n 1, 1) := by decide +kernel
theorem d4_75 : decode method_3_code 75 = .ok (.ifCond .lt 7, 3) := by decide +kernel
theorem d4_82 : decode method_3_code 82 = .ok (.iconst 0, 1) := by decide +kernel
theorem d4_83 : decode method_3_code 83 = .ok (.ireturn, 1) := by decide +kernel
theorem ef_rm4_5lt (m : MethodId)  : entryFrame m #[(.int (5 : Int32)), (.int (-1 : Int32))] 2 = mkF m 0 #[.val (.int (5 : Int32)), .val (.int (-1 : Int32))] [] := by first | (simp [entryFrame, mkF, argsToLocals, Value.category]; done) | rfl
def Q4_5lt (Z : State)  (h0 : Heap) (n0 : Nat) (v : Option Value) (h : Heap) (L : List Loc) : Prop := v = some (.int (0 : Int32)) ∧ Fr n0 L ∧ h = h0
set_option maxRecDepth 65536 in
set_option maxHeartbeats 40000000 in
theorem rm4_5lt (l : Launch) (Z : State) (a0 : Array Value) (hw : ∀ d ∈ tables_1, d.before a0 Z = true) (ws : List Jvm.Cond)  (h0 : Heap) (n0 : Nat) (Z0 : n0 ≤ h0.size) :
    MetFree l mn4 (head1 (Jvm.Cond.code mn4 method_3_code 2 (some .boolean) :: ws) ({ frames := 0, cells := 0, slots := 0, locals := 0 } : Room)) (fun a U => a = #[(.int (5 : Int32)), (.int (-1 : Int32))] ∧ Z.Warmed39 U.vm ∧ U.heap = h0) (fun _ _ _ _ _ => True) (fun _ U o U' => ∃ v L, o = .returned v ∧ Q4_5lt Z  h0 n0 v U'.heap L ∧ FrameEnd U o U' L ({ frames := 0, cells := 0, slots := 0, locals := 0 } : Room).cells ({ frames := 0, cells := 0, slots := 0, locals := 0 } : Room).slots) := by
  refine MetFree.of_bodySF (plainFor_of_name pn_1) hisR ?_
  intro p e s m args below meth c s₁ Bd hml0 hP hK
  obtain ⟨rfl, hZ, hh⟩ := hP
  have hx := Bd.exec
  have hby := Bd.bytes
  have hml : c.maxLocals = 2 := hml0
  have hown : s.vm.findClass "com/example/reckonmill/reckonmill/lib/model/tree/ComparisonHoldsPinLaw" = some m.cls := findClass_of_methodNamed Bd.named
  have hnm := (name_of_methodNamed Bd.named Bd.method).1
  have X0 : Stand p l e ({ frames := 0, cells := 0, slots := 0, locals := 0 } : Room) s m #[(.int (5 : Int32)), (.int (-1 : Int32))] below meth c s₁ [] 0 0 := Stand.of_body Bd
  have e0 : s₁.heap = h0 := by rw [← hh, Bd.state]; rfl
  have N0 := Fr.nil n0
  show own_Ends p e below s (Q4_5lt Z  h0 n0) _ _ s₁ _
  rw [ef_rm4_5lt m ]
  refine own_go (T' := s₁) (f' := (mkF m 30 #[.val (.int (5 : Int32)), .val (.int (-1 : Int32))] [(.int (5 : Int32))])) (fun _ k => XS.iloadN X0.here hx rfl (hb hby d4_0) rfl (XS.ifYes X0.here hx rfl (pc0 := 1) (pc' := 14) rfl (hb hby d4_1) rfl ((if0 _ _).trans (feq (by decide : ¬ ((5 : Int32) = (0 : Int32)))).2) (by decide) (by decide) (XS.iloadN X0.here hx rfl (hb hby d4_14) rfl (XS.iconst X0.here hx rfl (hb hby d4_15) (XS.icmpYes X0.here hx rfl (pc0 := 16) (pc' := 29) rfl (hb hby d4_16) rfl (feq (by decide : ¬ ((5 : Int32) = (1 : Int32)))).2 (by decide) (by decide) (XS.iloadN X0.here hx rfl (hb hby d4_29) rfl k)))))) ?_
  refine own_go (T' := s₁) (f' := (mkF m 60 #[.val (.int (5 : Int32)), .val (.int (-1 : Int32))] [(.int (5 : Int32))])) (fun _ k => XS.iconst X0.here hx rfl (hb hby d4_30) (XS.icmpYes X0.here hx rfl (pc0 := 31) (pc' := 44) rfl (hb hby d4_31) rfl (feq (by decide : ¬ ((5 : Int32) = (2 : Int32)))).2 (by decide) (by decide) (XS.iloadN X0.here hx rfl (hb hby d4_44) rfl (XS.iconst X0.here hx rfl (hb hby d4_45) (XS.icmpYes X0.here hx rfl (pc0 := 46) (pc' := 59) rfl (hb hby d4_46) rfl (feq (by decide : ¬ ((5 : Int32) = (3 : Int32)))).2 (by decide) (by decide) (XS.iloadN X0.here hx rfl (hb hby d4_59) rfl k)))))) ?_
  refine own_go (T' := s₁) (f' := (mkF m 83 #[.val (.int (5 : Int32)), .val (.int (-1 : Int32))] [(.int (0 : Int32))])) (fun _ k => XS.iconst X0.here hx rfl (hb hby d4_60) (XS.icmpYes X0.here hx rfl (pc0 := 61) (pc' := 74) rfl (hb hby d4_61) rfl (feq (by decide : ¬ ((5 : Int32) = (4 : Int32)))).2 (by decide) (by decide) (XS.iloadN X0.here hx rfl (hb hby d4_74) rfl (XS.ifYes X0.here hx rfl (pc0 := 75) (pc' := 82) rfl (hb hby d4_75) rfl ((if0 _ _).trans (tlt (by decide : ((-1 : Int32) < (0 : Int32)))).1) (by decide) (by decide) (XS.iconst X0.here hx rfl (hb hby d4_82) k))))) ?_
  refine own_ret X0 (v := some (.int (0 : Int32))) (fun h => by rw [Bd.returns] at h; cases h) Bd.notSynchronized (fun fs hr => retN X0 hx (t := .boolean) Bd.returns (by simp) (hb hby d4_83) hr) ?_ (by decide) (by decide)
  show Q4_5lt Z  h0 n0 _ s₁.heap _
  exact ⟨rfl, N0, e0⟩
theorem d4_78 : decode method_3_code 78 = .ok (.iconst 1, 1) := by decide +kernel
theorem d4_79 : decode method_3_code 79 = .ok (.goto 4, 3) := by decide +kernel
theorem ef_rm4_5eq (m : MethodId)  : entryFrame m #[(.int (5 : Int32)), (.int (0 : Int32))] 2 = mkF m 0 #[.val (.int (5 : Int32)), .val (.int (0 : Int32))] [] := by first | (simp [entryFrame, mkF, argsToLocals, Value.category]; done) | rfl
def Q4_5eq (Z : State)  (h0 : Heap) (n0 : Nat) (v : Option Value) (h : Heap) (L : List Loc) : Prop := v = some (.int (1 : Int32)) ∧ Fr n0 L ∧ h = h0
set_option maxRecDepth 65536 in
set_option maxHeartbeats 40000000 in
theorem rm4_5eq (l : Launch) (Z : State) (a0 : Array Value) (hw : ∀ d ∈ tables_1, d.before a0 Z = true) (ws : List Jvm.Cond)  (h0 : Heap) (n0 : Nat) (Z0 : n0 ≤ h0.size) :
    MetFree l mn4 (head1 (Jvm.Cond.code mn4 method_3_code 2 (some .boolean) :: ws) ({ frames := 0, cells := 0, slots := 0, locals := 0 } : Room)) (fun a U => a = #[(.int (5 : Int32)), (.int (0 : Int32))] ∧ Z.Warmed39 U.vm ∧ U.heap = h0) (fun _ _ _ _ _ => True) (fun _ U o U' => ∃ v L, o = .returned v ∧ Q4_5eq Z  h0 n0 v U'.heap L ∧ FrameEnd U o U' L ({ frames := 0, cells := 0, slots := 0, locals := 0 } : Room).cells ({ frames := 0, cells := 0, slots := 0, locals := 0 } : Room).slots) := by
  refine MetFree.of_bodySF (plainFor_of_name pn_1) hisR ?_
  intro p e s m args below meth c s₁ Bd hml0 hP hK
  obtain ⟨rfl, hZ, hh⟩ := hP
  have hx := Bd.exec
  have hby := Bd.bytes
  have hml : c.maxLocals = 2 := hml0
  have hown : s.vm.findClass "com/example/reckonmill/reckonmill/lib/model/tree/ComparisonHoldsPinLaw" = some m.cls := findClass_of_methodNamed Bd.named
  have hnm := (name_of_methodNamed Bd.named Bd.method).1
  have X0 : Stand p l e ({ frames := 0, cells := 0, slots := 0, locals := 0 } : Room) s m #[(.int (5 : Int32)), (.int (0 : Int32))] below meth c s₁ [] 0 0 := Stand.of_body Bd
  have e0 : s₁.heap = h0 := by rw [← hh, Bd.state]; rfl
  have N0 := Fr.nil n0
  show own_Ends p e below s (Q4_5eq Z  h0 n0) _ _ s₁ _
  rw [ef_rm4_5eq m ]
  refine own_go (T' := s₁) (f' := (mkF m 30 #[.val (.int (5 : Int32)), .val (.int (0 : Int32))] [(.int (5 : Int32))])) (fun _ k => XS.iloadN X0.here hx rfl (hb hby d4_0) rfl (XS.ifYes X0.here hx rfl (pc0 := 1) (pc' := 14) rfl (hb hby d4_1) rfl ((if0 _ _).trans (feq (by decide : ¬ ((5 : Int32) = (0 : Int32)))).2) (by decide) (by decide) (XS.iloadN X0.here hx rfl (hb hby d4_14) rfl (XS.iconst X0.here hx rfl (hb hby d4_15) (XS.icmpYes X0.here hx rfl (pc0 := 16) (pc' := 29) rfl (hb hby d4_16) rfl (feq (by decide : ¬ ((5 : Int32) = (1 : Int32)))).2 (by decide) (by decide) (XS.iloadN X0.here hx rfl (hb hby d4_29) rfl k)))))) ?_
  refine own_go (T' := s₁) (f' := (mkF m 60 #[.val (.int (5 : Int32)), .val (.int (0 : Int32))] [(.int (5 : Int32))])) (fun _ k => XS.iconst X0.here hx rfl (hb hby d4_30) (XS.icmpYes X0.here hx rfl (pc0 := 31) (pc' := 44) rfl (hb hby d4_31) rfl (feq (by decide : ¬ ((5 : Int32) = (2 : Int32)))).2 (by decide) (by decide) (XS.iloadN X0.here hx rfl (hb hby d4_44) rfl (XS.iconst X0.here hx rfl (hb hby d4_45) (XS.icmpYes X0.here hx rfl (pc0 := 46) (pc' := 59) rfl (hb hby d4_46) rfl (feq (by decide : ¬ ((5 : Int32) = (3 : Int32)))).2 (by decide) (by decide) (XS.iloadN X0.here hx rfl (hb hby d4_59) rfl k)))))) ?_
  refine own_go (T' := s₁) (f' := (mkF m 83 #[.val (.int (5 : Int32)), .val (.int (0 : Int32))] [(.int (1 : Int32))])) (fun _ k => XS.iconst X0.here hx rfl (hb hby d4_60) (XS.icmpYes X0.here hx rfl (pc0 := 61) (pc' := 74) rfl (hb hby d4_61) rfl (feq (by decide : ¬ ((5 : Int32) = (4 : Int32)))).2 (by decide) (by decide) (XS.iloadN X0.here hx rfl (hb hby d4_74) rfl (XS.ifNo X0.here hx rfl (hb hby d4_75) rfl ((if0 _ _).trans (flt (by decide : ¬ ((0 : Int32) < (0 : Int32)))).1) (XS.iconst X0.here hx rfl (hb hby d4_78) (XS.goto X0.here hx rfl (pc0 := 79) (pc' := 83) rfl (hb hby d4_79) (by decide) (by decide) k)))))) ?_
  refine own_ret X0 (v := some (.int (1 : Int32))) (fun h => by rw [Bd.returns] at h; cases h) Bd.notSynchronized (fun fs hr => retN X0 hx (t := .boolean) Bd.returns (by simp) (hb hby d4_83) hr) ?_ (by decide) (by decide)
  show Q4_5eq Z  h0 n0 _ s₁.heap _
  exact ⟨rfl, N0, e0⟩
theorem ef_rm4_5gt (m : MethodId)  : entryFrame m #[(.int (5 : Int32)), (.int (1 : Int32))] 2 = mkF m 0 #[.val (.int (5 : Int32)), .val (.int (1 : Int32))] [] := by first | (simp [entryFrame, mkF, argsToLocals, Value.category]; done) | rfl
def Q4_5gt (Z : State)  (h0 : Heap) (n0 : Nat) (v : Option Value) (h : Heap) (L : List Loc) : Prop := v = some (.int (1 : Int32)) ∧ Fr n0 L ∧ h = h0
set_option maxRecDepth 65536 in
set_option maxHeartbeats 40000000 in
theorem rm4_5gt (l : Launch) (Z : State) (a0 : Array Value) (hw : ∀ d ∈ tables_1, d.before a0 Z = true) (ws : List Jvm.Cond)  (h0 : Heap) (n0 : Nat) (Z0 : n0 ≤ h0.size) :
    MetFree l mn4 (head1 (Jvm.Cond.code mn4 method_3_code 2 (some .boolean) :: ws) ({ frames := 0, cells := 0, slots := 0, locals := 0 } : Room)) (fun a U => a = #[(.int (5 : Int32)), (.int (1 : Int32))] ∧ Z.Warmed39 U.vm ∧ U.heap = h0) (fun _ _ _ _ _ => True) (fun _ U o U' => ∃ v L, o = .returned v ∧ Q4_5gt Z  h0 n0 v U'.heap L ∧ FrameEnd U o U' L ({ frames := 0, cells := 0, slots := 0, locals := 0 } : Room).cells ({ frames := 0, cells := 0, slots := 0, locals := 0 } : Room).slots) := by
  refine MetFree.of_bodySF (plainFor_of_name pn_1) hisR ?_
  intro p e s m args below meth c s₁ Bd hml0 hP hK
  obtain ⟨rfl, hZ, hh⟩ := hP
  have hx := Bd.exec
  have hby := Bd.bytes
  have hml : c.maxLocals = 2 := hml0
  have hown : s.vm.findClass "com/example/reckonmill/reckonmill/lib/model/tree/ComparisonHoldsPinLaw" = some m.cls := findClass_of_methodNamed Bd.named
  have hnm := (name_of_methodNamed Bd.named Bd.method).1
  have X0 : Stand p l e ({ frames := 0, cells := 0, slots := 0, locals := 0 } : Room) s m #[(.int (5 : Int32)), (.int (1 : Int32))] below meth c s₁ [] 0 0 := Stand.of_body Bd
  have e0 : s₁.heap = h0 := by rw [← hh, Bd.state]; rfl
  have N0 := Fr.nil n0
  show own_Ends p e below s (Q4_5gt Z  h0 n0) _ _ s₁ _
  rw [ef_rm4_5gt m ]
  refine own_go (T' := s₁) (f' := (mkF m 30 #[.val (.int (5 : Int32)), .val (.int (1 : Int32))] [(.int (5 : Int32))])) (fun _ k => XS.iloadN X0.here hx rfl (hb hby d4_0) rfl (XS.ifYes X0.here hx rfl (pc0 := 1) (pc' := 14) rfl (hb hby d4_1) rfl ((if0 _ _).trans (feq (by decide : ¬ ((5 : Int32) = (0 : Int32)))).2) (by decide) (by decide) (XS.iloadN X0.here hx rfl (hb hby d4_14) rfl (XS.iconst X0.here hx rfl (hb hby d4_15) (XS.icmpYes X0.here hx rfl (pc0 := 16) (pc' := 29) rfl (hb hby d4_16) rfl (feq (by decide : ¬ ((5 : Int32) = (1 : Int32)))).2 (by decide) (by decide) (XS.iloadN X0.here hx rfl (hb hby d4_29) rfl k)))))) ?_
  refine own_go (T' := s₁) (f' := (mkF m 60 #[.val (.int (5 : Int32)), .val (.int (1 : Int32))] [(.int (5 : Int32))])) (fun _ k => XS.iconst X0.here hx rfl (hb hby d4_30) (XS.icmpYes X0.here hx rfl (pc0 := 31) (pc' := 44) rfl (hb hby d4_31) rfl (feq (by decide : ¬ ((5 : Int32) = (2 : Int32)))).2 (by decide) (by decide) (XS.iloadN X0.here hx rfl (hb hby d4_44) rfl (XS.iconst X0.here hx rfl (hb hby d4_45) (XS.icmpYes X0.here hx rfl (pc0 := 46) (pc' := 59) rfl (hb hby d4_46) rfl (feq (by decide : ¬ ((5 : Int32) = (3 : Int32)))).2 (by decide) (by decide) (XS.iloadN X0.here hx rfl (hb hby d4_59) rfl k)))))) ?_
  refine own_go (T' := s₁) (f' := (mkF m 83 #[.val (.int (5 : Int32)), .val (.int (1 : Int32))] [(.int (1 : Int32))])) (fun _ k => XS.iconst X0.here hx rfl (hb hby d4_60) (XS.icmpYes X0.here hx rfl (pc0 := 61) (pc' := 74) rfl (hb hby d4_61) rfl (feq (by decide : ¬ ((5 : Int32) = (4 : Int32)))).2 (by decide) (by decide) (XS.iloadN X0.here hx rfl (hb hby d4_74) rfl (XS.ifNo X0.here hx rfl (hb hby d4_75) rfl ((if0 _ _).trans (flt (by decide : ¬ ((1 : Int32) < (0 : Int32)))).1) (XS.iconst X0.here hx rfl (hb hby d4_78) (XS.goto X0.here hx rfl (pc0 := 79) (pc' := 83) rfl (hb hby d4_79) (by decide) (by decide) k)))))) ?_
  refine own_ret X0 (v := some (.int (1 : Int32))) (fun h => by rw [Bd.returns] at h; cases h) Bd.notSynchronized (fun fs hr => retN X0 hx (t := .boolean) Bd.returns (by simp) (hb hby d4_83) hr) ?_ (by decide) (by decide)
  show Q4_5gt Z  h0 n0 _ s₁.heap _
  exact ⟨rfl, N0, e0⟩
theorem pd2 : parseMethodDescriptor "(I)Lcom/example/reckonmill/reckonmill/lib/model/tree/Comparison;" = some ⟨[.int], some (.object "com/example/reckonmill/reckonmill/lib/model/tree/Comparison")⟩ := by decide +kernel
theorem pd1 : parseMethodDescriptor "(DD)Z" = some ⟨[.double, .double], some .boolean⟩ := by decide +kernel
theorem pd3 : parseMethodDescriptor "(II)Z" = some ⟨[.int, .int], some .boolean⟩ := by decide +kernel
theorem ef_rm0 (m : MethodId) (p0 : Int32) (p1 : Int32) (p2 : Int32) (p3 : Int32) : entryFrame m #[(.int p0), (.int p1), (.int p2), (.int p3)] maxLocals = mkF m 0 #[.val (.int p0), .val (.int p1), .val (.int p2), .val (.int p3), .unset, .unset, .unset, .unset, .unset, .unset] [] := by first | (simp [entryFrame, mkF, argsToLocals, Value.category, maxLocals]; done) | rfl
def Q0 (Z : State) (p0 : Int32) (p1 : Int32) (p2 : Int32) (p3 : Int32) (wEQUAL : Addr) (wNOT_EQUAL : Addr) (wLESS : Addr) (wLESS_OR_EQUAL : Addr) (wGREATER : Addr) (wGREATER_OR_EQUAL : Addr) (h0 : Heap) (n0 : Nat) (v : Option Value) (h : Heap) (L : List Loc) : Prop := v = some (.int (1 : Int32)) ∧ Fr n0 L
set_option maxRecDepth 65536 in
set_option maxHeartbeats 40000000 in
theorem rm0 (l : Launch) (Z : State) (a0 : Array Value) (hw : ∀ d ∈ tables_1, d.before a0 Z = true) (ws : List Jvm.Cond) (p0 : Int32) (p1 : Int32) (p2 : Int32) (p3 : Int32) (wEQUAL : Addr) (wNOT_EQUAL : Addr) (wLESS : Addr) (wLESS_OR_EQUAL : Addr) (wGREATER : Addr) (wGREATER_OR_EQUAL : Addr) (h0 : Heap) (n0 : Nat) (Z0 : n0 ≤ h0.size) (S_EQUAL : Sta Z h0 "com/example/reckonmill/reckonmill/lib/model/tree/Comparison" "EQUAL" "Lcom/example/reckonmill/reckonmill/lib/model/tree/Comparison;" (.ref wEQUAL)) (S_NOT_EQUAL : Sta Z h0 "com/example/reckonmill/reckonmill/lib/model/tree/Comparison" "NOT_EQUAL" "Lcom/example/reckonmill/reckonmill/lib/model/tree/Comparison;" (.ref wNOT_EQUAL)) (S_LESS : Sta Z h0 "com/example/reckonmill/reckonmill/lib/model/tree/Comparison" "LESS" "Lcom/example/reckonmill/reckonmill/lib/model/tree/Comparison;" (.ref wLESS)) (S_LESS_OR_EQUAL : Sta Z h0 "com/example/reckonmill/reckonmill/lib/model/tree/Comparison" "LESS_OR_EQUAL" "Lcom/example/reckonmill/reckonmill/lib/model/tree/Comparison;" (.ref wLESS_OR_EQUAL)) (S_GREATER : Sta Z h0 "com/example/reckonmill/reckonmill/lib/model/tree/Comparison" "GREATER" "Lcom/example/reckonmill/reckonmill/lib/model/tree/Comparison;" (.ref wGREATER)) (S_GREATER_OR_EQUAL : Sta Z h0 "com/example/reckonmill/reckonmill/lib/model/tree/Comparison" "GREATER_OR_EQUAL" "Lcom/example/reckonmill/reckonmill/lib/model/tree/Comparison;" (.ref wGREATER_OR_EQUAL)) (E_EQUAL : Exa Z h0 wEQUAL "com/example/reckonmill/reckonmill/lib/model/tree/Comparison") (E_NOT_EQUAL : Exa Z h0 wNOT_EQUAL "com/example/reckonmill/reckonmill/lib/model/tree/Comparison") (E_LESS : Exa Z h0 wLESS "com/example/reckonmill/reckonmill/lib/model/tree/Comparison") (E_LESS_OR_EQUAL : Exa Z h0 wLESS_OR_EQUAL "com/example/reckonmill/reckonmill/lib/model/tree/Comparison") (E_GREATER : Exa Z h0 wGREATER "com/example/reckonmill/reckonmill/lib/model/tree/Comparison") (E_GREATER_OR_EQUAL : Exa Z h0 wGREATER_OR_EQUAL "com/example/reckonmill/reckonmill/lib/model/tree/Comparison") (O_EQUAL : Fld Z h0 wEQUAL "java/lang/Enum" "ordinal" "I" (.int (0 : Int32))) (O_NOT_EQUAL : Fld Z h0 wNOT_EQUAL "java/lang/Enum" "ordinal" "I" (.int (1 : Int32))) (O_LESS : Fld Z h0 wLESS "java/lang/Enum" "ordinal" "I" (.int (2 : Int32))) (O_LESS_OR_EQUAL : Fld Z h0 wLESS_OR_EQUAL "java/lang/Enum" "ordinal" "I" (.int (3 : Int32))) (O_GREATER : Fld Z h0 wGREATER "java/lang/Enum" "ordinal" "I" (.int (4 : Int32))) (O_GREATER_OR_EQUAL : Fld Z h0 wGREATER_OR_EQUAL "java/lang/Enum" "ordinal" "I" (.int (5 : Int32))) :
    MetFree l x (head1 (Jvm.Cond.code x code maxLocals ret :: ws) room_1) (fun a U => a = #[(.int p0), (.int p1), (.int p2), (.int p3)] ∧ Z.Warmed39 U.vm ∧ U.heap = h0) (fun _ _ _ _ _ => True) (fun _ U o U' => ∃ v L, o = .returned v ∧ Q0 Z p0 p1 p2 p3 wEQUAL wNOT_EQUAL wLESS wLESS_OR_EQUAL wGREATER wGREATER_OR_EQUAL h0 n0 v U'.heap L ∧ FrameEnd U o U' L room_1.cells room_1.slots) := by
  refine MetFree.of_bodySF (plainFor_of_name pn_1) hisR ?_
  intro p e s m args below meth c s₁ Bd hml0 hP hK
  obtain ⟨rfl, hZ, hh⟩ := hP
  have hx := Bd.exec
  have hby := Bd.bytes
  have hml : c.maxLocals = 10 := hml0
  have hown : s.vm.findClass "com/example/reckonmill/reckonmill/lib/model/tree/ComparisonHoldsPinLaw" = some m.cls := findClass_of_methodNamed Bd.named
  have hnm := (name_of_methodNamed Bd.named Bd.method).1
  have X0 : Stand p l e room_1 s m #[(.int p0), (.int p1), (.int p2), (.int p3)] below meth c s₁ [] 0 0 := Stand.of_body Bd
  have e0 : s₁.heap = h0 := by rw [← hh, Bd.state]; rfl
  have N0 := Fr.nil n0
  show own_Ends p e below s (Q0 Z p0 p1 p2 p3 wEQUAL wNOT_EQUAL wLESS wLESS_OR_EQUAL wGREATER wGREATER_OR_EQUAL h0 n0) _ _ s₁ _
  rw [ef_rm0 m p0 p1 p2 p3]
  refine own_go (T' := s₁) (f' := (mkF m 9 #[.val (.int p0), .val (.int p1), .val (.int p2), .val (.int p3), .val (.int ((p0 &&& (2147483647 : Int32)) % (6 : Int32))), .unset, .unset, .unset, .unset, .unset] [])) (fun _ k => XS.iloadN X0.here hx rfl (hb hby at_0) rfl (X0.ldcInt hx hown (mvT hZ (ow0 hw)) (g := (mkF m 1 #[.val (.int p0), .val (.int p1), .val (.int p2), .val (.int p3), .unset, .unset, .unset, .unset, .unset, .unset] [(.int p0)])) rfl (hb hby at_1) _ (XS.iand X0.here hx rfl (hb hby at_3) rfl (XS.bipush X0.here hx rfl (hb hby at_4) (iremM X0 hx rfl (hb hby at_6) rfl (by decide) (XS.istore X0.here hx rfl (hb hby at_7) rfl (l' := #[.val (.int p0), .val (.int p1), .val (.int p2), .val (.int p3), .val (.int ((p0 &&& (2147483647 : Int32)) % (6 : Int32))), .unset, .unset, .unset, .unset, .unset]) rfl k)))))) ?_
  generalize hzk : ((p0 &&& (2147483647 : Int32)) % (6 : Int32)) = zk
  refine own_go (T' := s₁) (f' := (mkF m 14 #[.val (.int p0), .val (.int p1), .val (.int p2), .val (.int p3), .val (.int zk), .val (.int (p3 &&& (3 : Int32))), .unset, .unset, .unset, .unset] [])) (fun _ k => XS.iloadN X0.here hx rfl (hb hby at_9) rfl (XS.iconst X0.here hx rfl (hb hby at_10) (XS.iand X0.here hx rfl (hb hby at_11) rfl (XS.istore X0.here hx rfl (hb hby at_12) rfl (l' := #[.val (.int p0), .val (.int p1), .val (.int p2), .val (.int p3), .val (.int zk), .val (.int (p3 &&& (3 : Int32))), .unset, .unset, .unset, .unset]) rfl k)))) ?_
  generalize hzm : (p3 &&& (3 : Int32)) = zm
  refine own_go (T' := s₁) (f' := (mkF m 17 #[.val (.int p0), .val (.int p1), .val (.int p2), .val (.int p3), .val (.int zk), .val (.int zm), .val (.int p2), .unset, .unset, .unset] [])) (fun _ k => XS.iloadN X0.here hx rfl (hb hby at_14) rfl (XS.istore X0.here hx rfl (hb hby at_15) rfl (l' := #[.val (.int p0), .val (.int p1), .val (.int p2), .val (.int p3), .val (.int zk), .val (.int zm), .val (.int p2), .unset, .unset, .unset]) rfl k)) ?_
  have rest1 : ∀ (zy : Int32), own_Ends p e below s (Q0 Z p0 p1 p2 p3 wEQUAL wNOT_EQUAL wLESS wLESS_OR_EQUAL wGREATER wGREATER_OR_EQUAL h0 n0) room_1.cells room_1.slots s₁ (mkF m 54 #[.val (.int p0), .val (.int p1), .val (.int p2), .val (.int p3), .val (.int zk), .val (.int zm), .val (.int zy), .unset, .unset, .unset] []) := by
    intro zy
    refine own_go (T' := s₁) (f' := (mkF m 57 #[.val (.int p0), .val (.int p1), .val (.int p2), .val (.int p3), .val (.int zk), .val (.int zm), .val (.int zy), .unset, .unset, .unset] [(.int zy), (.int p1)])) (fun _ k => XS.iloadN X0.here hx rfl (hb hby at_54) rfl (XS.iload X0.here hx rfl (hb hby at_55) rfl k)) ?_
    by_cases hc2 : p1 < zy
    · refine own_go (T' := s₁) (f' := (mkF m 77 #[.val (.int p0), .val (.int p1), .val (.int p2), .val (.int p3), .val (.int zk), .val (.int zm), .val (.int zy), .val (.int (-1 : Int32)), .unset, .unset] [])) (fun _ k => XS.icmpNo X0.here hx rfl (hb hby at_57) rfl (tlt hc2).2.1 (XS.iconst X0.here hx rfl (hb hby at_60) (XS.goto X0.here hx rfl (pc0 := 61) (pc' := 75) rfl (hb hby at_61) (by decide) (by decide) (XS.istore X0.here hx rfl (hb hby at_75) rfl (l' := #[.val (.int p0), .val (.int p1), .val (.int p2), .val (.int p3), .val (.int zk), .val (.int zm), .val (.int zy), .val (.int (-1 : Int32)), .unset, .unset]) rfl k)))) ?_
      have hdc : FP.dcmp (FP.i2d p1) (FP.i2d zy) = some .lt := own_dlt hc2
      have hck := own_mod6 _ hzk
      rcases hck with rfl | rfl | rfl | rfl | rfl | rfl
      · refine own_go (T' := s₁) (f' := (mkF m 79 #[.val (.int p0), .val (.int p1), .val (.int p2), .val (.int p3), .val (.int (0 : Int32)), .val (.int zm), .val (.int zy), .val (.int (-1 : Int32)), .unset, .unset] [(.int (0 : Int32))])) (fun _ k => XS.iload X0.here hx rfl (hb hby at_77) rfl k) ?_
        obtain ⟨_, _, ⟨T3, L3, k3, n3⟩, -, X3, ⟨Lc3, hQ3, l3, y3, z3⟩, st3⟩ := Jvm.LawKit.callS X0 hx (y := mn3) hown (mvT hZ (ow1 hw)) (mvT hZ (ow2 hw)) (mvT hZ (ow3 hw)) (mvT hZ (ow4 hw)) (by decide) (backOf (W := 0) (rm1_0 l Z a0 hw [] wEQUAL wNOT_EQUAL wLESS wLESS_OR_EQUAL wGREATER wGREATER_OR_EQUAL h0 n0 Z0 S_EQUAL S_NOT_EQUAL S_LESS S_LESS_OR_EQUAL S_GREATER S_GREATER_OR_EQUAL) hZ (ow4 hw) (ow3 hw) (by decide) (by decide)) (g := (mkF m 79 #[.val (.int p0), .val (.int p1), .val (.int p2), .val (.int p3), .val (.int (0 : Int32)), .val (.int zm), .val (.int zy), .val (.int (-1 : Int32)), .unset, .unset] [(.int (0 : Int32))])) rfl (by rw [hml]; rfl) (argsL := [(.int (0 : Int32))]) (rest := []) (lenOf pd2 rfl) rfl (by show 2 * 0 + _ ≤ _; exact Nat.le_of_eq rfl) (hb hby at_79) (fun _ _ => ⟨rfl, e0, (by decide : 0 + 0 ≤ _), (by decide : 0 + 0 ≤ _)⟩)
        dsimp only [Pt.U, Pt.locs, Pt.cells, Pt.slots] at X3 l3 y3 z3 st3 hQ3
        subst l3 y3 z3
        obtain ⟨rfl, N3q, hh3⟩ := hQ3
        have N3 := Fr.app N0 N3q
        refine own_go (T' := T3) (f' := (mkF m 90 #[.val (.int p0), .val (.int p1), .val (.int p2), .val (.int p3), .val (.int (0 : Int32)), .val (.int zm), .val (.int zy), .val (.int (-1 : Int32)), .val (.ref wEQUAL), .unset] [(.int zy), (.double (FP.i2d p1)), (.ref wEQUAL)])) (fun _ k => st3 _ (XS.astore X3.here hx rfl (hb hby at_82) rfl rfl (l' := #[.val (.int p0), .val (.int p1), .val (.int p2), .val (.int p3), .val (.int (0 : Int32)), .val (.int zm), .val (.int zy), .val (.int (-1 : Int32)), .val (.ref wEQUAL), .unset]) rfl (XS.aload X3.here hx rfl (hb hby at_84) rfl rfl (XS.iloadN X3.here hx rfl (hb hby at_86) rfl (own_i2d X3.here hx rfl (hb hby at_87) rfl (XS.iload X3.here hx rfl (hb hby at_88) rfl k)))))) ?_
        refine own_go (T' := T3) (f' := (mkF m 91 #[.val (.int p0), .val (.int p1), .val (.int p2), .val (.int p3), .val (.int (0 : Int32)), .val (.int zm), .val (.int zy), .val (.int (-1 : Int32)), .val (.ref wEQUAL), .unset] [(.double (FP.i2d zy)), (.double (FP.i2d p1)), (.ref wEQUAL)])) (fun _ k => own_i2d X3.here hx rfl (hb hby at_90) rfl k) ?_
        obtain ⟨cq4, kq4, q4a, q4b, q4c⟩ := isOf hZ hh3 E_EQUAL
        obtain ⟨_, _, ⟨T4, L4, k4, n4⟩, -, X4, ⟨Lc4, hQ4, l4, y4, z4⟩, st4⟩ := X3.virtualBack hx (y := mn2) (z := mn2) hown (mvT hZ (ow8 hw)) (mvT hZ (ow9 hw)) (notFace_of_selects (args := #[]) (mvT hZ (ow11 hw))) (mvT hZ (ow11 hw)) (mvT hZ (ow10 hw)) (by decide) (backOf (W := 0) (rm2_0lt l Z a0 hw [] wEQUAL (FP.i2d p1) (FP.i2d zy) h0 n0 Z0 O_EQUAL E_EQUAL hdc) hZ (ow12 hw) (ow6 hw) (by decide) (by decide)) q4a q4c (g := (mkF m 91 #[.val (.int p0), .val (.int p1), .val (.int p2), .val (.int p3), .val (.int (0 : Int32)), .val (.int zm), .val (.int zy), .val (.int (-1 : Int32)), .val (.ref wEQUAL), .unset] [(.double (FP.i2d zy)), (.double (FP.i2d p1)), (.ref wEQUAL)])) rfl (by rw [hml]; rfl) (Steps.refl _) (argsL := [(.double (FP.i2d p1)), (.double (FP.i2d zy))]) (rest := []) (lenOf pd1 rfl) rfl (by show 2 * 0 + _ ≤ _; exact Nat.le_of_eq rfl) (hb hby at_91) (fun _ _ => ⟨rfl, hh3, (by decide : 0 + 0 ≤ _), (by decide : 0 + 0 ≤ _)⟩)
        dsimp only [Pt.U, Pt.locs, Pt.cells, Pt.slots] at X4 l4 y4 z4 st4 hQ4
        subst l4 y4 z4
        obtain ⟨rfl, N4q, hh4⟩ := hQ4
        have N4 := Fr.app N3 N4q
        refine own_go (T' := T4) (f' := (mkF m 102 #[.val (.int p0), .val (.int p1), .val (.int p2), .val (.int p3), .val (.int (0 : Int32)), .val (.int zm), .val (.int zy), .val (.int (-1 : Int32)), .val (.ref wEQUAL), .val (.int (0 : Int32))] [(.int (-1 : Int32)), (.int (0 : Int32)), (.int (0 : Int32))])) (fun _ k => st4.trans (XS.istore X4.here hx rfl (hb hby at_94) rfl (l' := #[.val (.int p0), .val (.int p1), .val (.int p2), .val (.int p3), .val (.int (0 : Int32)), .val (.int zm), .val (.int zy), .val (.int (-1 : Int32)), .val (.ref wEQUAL), .val (.int (0 : Int32))]) rfl (XS.iload X4.here hx rfl (hb hby at_96) rfl (XS.iload X4.here hx rfl (hb hby at_98) rfl (XS.iload X4.here hx rfl (hb hby at_100) rfl k))))) ?_
        obtain ⟨_, _, ⟨T5, L5, k5, n5⟩, -, X5, ⟨Lc5, hQ5, l5, y5, z5⟩, st5⟩ := Jvm.LawKit.callS X4 hx (y := mn4) hown (mvT hZ (ow22 hw)) (mvT hZ (ow23 hw)) (mvT hZ (ow3 hw)) (mvT hZ (ow24 hw)) (by decide) (backOf (W := 1) (rm4_0lt l Z a0 hw [] h0 n0 Z0) hZ (ow24 hw) (ow3 hw) (by decide) (by decide)) (g := (mkF m 102 #[.val (.int p0), .val (.int p1), .val (.int p2), .val (.int p3), .val (.int (0 : Int32)), .val (.int zm), .val (.int zy), .val (.int (-1 : Int32)), .val (.ref wEQUAL), .val (.int (0 : Int32))] [(.int (-1 : Int32)), (.int (0 : Int32)), (.int (0 : Int32))])) rfl (by rw [hml]; rfl) (argsL := [(.int (0 : Int32)), (.int (-1 : Int32))]) (rest := [(.int (0 : Int32))]) (lenOf pd3 rfl) rfl (by show 2 * 0 + _ ≤ _; exact Nat.le_of_eq rfl) (hb hby at_102) (fun _ _ => ⟨rfl, hh4, (by decide : 0 + 0 ≤ _), (by decide : 0 + 0 ≤ _)⟩)
        dsimp only [Pt.U, Pt.locs, Pt.cells, Pt.slots] at X5 l5 y5 z5 st5 hQ5
        subst l5 y5 z5
        obtain ⟨rfl, N5q, hh5⟩ := hQ5
        have N5 := Fr.app N4 N5q
        refine own_go (T' := T5) (f' := (mkF m 113 #[.val (.int p0), .val (.int p1), .val (.int p2), .val (.int p3), .val (.int (0 : Int32)), .val (.int zm), .val (.int zy), .val (.int (-1 : Int32)), .val (.ref wEQUAL), .val (.int (0 : Int32))] [(.int (1 : Int32))])) (fun _ k => st5 _ (XS.icmpNo X5.here hx rfl (hb hby at_105) rfl (teq (by decide : ((0 : Int32) = (0 : Int32)))).2 (XS.iconst X5.here hx rfl (hb hby at_108) (XS.goto X5.here hx rfl (pc0 := 109) (pc' := 113) rfl (hb hby at_109) (by decide) (by decide) k)))) ?_
        refine own_ret X5 (v := some (.int (1 : Int32))) (fun h => by rw [Bd.returns] at h; cases h) Bd.notSynchronized (fun fs hr => retN X5 hx (t := .boolean) Bd.returns (by simp) (hb hby at_113) hr) ?_ (by decide) (by decide)
        show Q0 Z p0 p1 p2 p3 wEQUAL wNOT_EQUAL wLESS wLESS_OR_EQUAL wGREATER wGREATER_OR_EQUAL h0 n0 _ T5.heap _
        exact ⟨rfl, N5⟩
      · refine own_go (T' := s₁) (f' := (mkF m 79 #[.val (.int p0), .val (.int p1), .val (.int p2), .val (.int p3), .val (.int (1 : Int32)), .val (.int zm), .val (.int zy), .val (.int (-1 : Int32)), .unset, .unset] [(.int (1 : Int32))])) (fun _ k => XS.iload X0.here hx rfl (hb hby at_77) rfl k) ?_
        obtain ⟨_, _, ⟨T6, L6, k6, n6⟩, -, X6, ⟨Lc6, hQ6, l6, y6, z6⟩, st6⟩ := Jvm.LawKit.callS X0 hx (y := mn3) hown (mvT hZ (ow1 hw)) (mvT hZ (ow2 hw)) (mvT hZ (ow3 hw)) (mvT hZ (ow4 hw)) (by decide) (backOf (W := 0) (rm1_1 l Z a0 hw [] wEQUAL wNOT_EQUAL wLESS wLESS_OR_EQUAL wGREATER wGREATER_OR_EQUAL h0 n0 Z0 S_EQUAL S_NOT_EQUAL S_LESS S_LESS_OR_EQUAL S_GREATER S_GREATER_OR_EQUAL) hZ (ow4 hw) (ow3 hw) (by decide) (by decide)) (g := (mkF m 79 #[.val (.int p0), .val (.int p1), .val (.int p2), .val (.int p3), .val (.int (1 : Int32)), .val (.int zm), .val (.int zy), .val (.int (-1 : Int32)), .unset, .unset] [(.int (1 : Int32))])) rfl (by rw [hml]; rfl) (argsL := [(.int (1 : Int32))]) (rest := []) (lenOf pd2 rfl) rfl (by show 2 * 0 + _ ≤ _; exact Nat.le_of_eq rfl) (hb hby at_79) (fun _ _ => ⟨rfl, e0, (by decide : 0 + 0 ≤ _), (by decide : 0 + 0 ≤ _)⟩)
        dsimp only [Pt.U, Pt.locs, Pt.cells, Pt.slots] at X6 l6 y6 z6 st6 hQ6
        subst l6 y6 z6
        obtain ⟨rfl, N6q, hh6⟩ := hQ6
        have N6 := Fr.app N0 N6q
        refine own_go (T' := T6) (f' := (mkF m 90 #[.val (.int p0), .val (.int p1), .val (.int p2), .val (.int p3), .val (.int (1 : Int32)), .val (.int zm), .val (.int zy), .val (.int (-1 : Int32)), .val (.ref wNOT_EQUAL), .unset] [(.int zy), (.double (FP.i2d p1)), (.ref wNOT_EQUAL)])) (fun _ k => st6 _ (XS.astore X6.here hx rfl (hb hby at_82) rfl rfl (l' := #[.val (.int p0), .val (.int p1), .val (.int p2), .val (.int p3), .val (.int (1 : Int32)), .val (.int zm), .val (.int zy), .val (.int (-1 : Int32)), .val (.ref wNOT_EQUAL), .unset]) rfl (XS.aload X6.here hx rfl (hb hby at_84) rfl rfl (XS.iloadN X6.here hx rfl (hb hby at_86) rfl (own_i2d X6.here hx rfl (hb hby at_87) rfl (XS.iload X6.here hx rfl (hb hby at_88) rfl k)))))) ?_
        refine own_go (T' := T6) (f' := (mkF m 91 #[.val (.int p0), .val (.int p1), .val (.int p2), .val (.int p3), .val (.int (1 : Int32)), .val (.int zm), .val (.int zy), .val (.int (-1 : Int32)), .val (.ref wNOT_EQUAL), .unset] [(.double (FP.i2d zy)), (.double (FP.i2d p1)), (.ref wNOT_EQUAL)])) (fun _ k => own_i2d X6.here hx rfl (hb hby at_90) rfl k) ?_
        obtain ⟨cq7, kq7, q7a, q7b, q7c⟩ := isOf hZ hh6 E_NOT_EQUAL
        obtain ⟨_, _, ⟨T7, L7, k7, n7⟩, -, X7, ⟨Lc7, hQ7, l7, y7, z7⟩, st7⟩ := X6.virtualBack hx (y := mn2) (z := mn2) hown (mvT hZ (ow8 hw)) (mvT hZ (ow9 hw)) (notFace_of_selects (args := #[]) (mvT hZ (ow11 hw))) (mvT hZ (ow11 hw)) (mvT hZ (ow10 hw)) (by decide) (backOf (W := 0) (rm2_1lt l Z a0 hw [] wNOT_EQUAL (FP.i2d p1) (FP.i2d zy) h0 n0 Z0 O_NOT_EQUAL E_NOT_EQUAL hdc) hZ (ow12 hw) (ow6 hw) (by decide) (by decide)) q7a q7c (g := (mkF m 91 #[.val (.int p0), .val (.int p1), .val (.int p2), .val (.int p3), .val (.int (1 : Int32)), .val (.int zm), .val (.int zy), .val (.int (-1 : Int32)), .val (.ref wNOT_EQUAL), .unset] [(.double (FP.i2d zy)), (.double (FP.i2d p1)), (.ref wNOT_EQUAL)])) rfl (by rw [hml]; rfl) (Steps.refl _) (argsL := [(.double (FP.i2d p1)), (.double (FP.i2d zy))]) (rest := []) (lenOf pd1 rfl) rfl (by show 2 * 0 + _ ≤ _; exact Nat.le_of_eq rfl) (hb hby at_91) (fun _ _ => ⟨rfl, hh6, (by decide : 0 + 0 ≤ _), (by decide : 0 + 0 ≤ _)⟩)
        dsimp only [Pt.U, Pt.locs, Pt.cells, Pt.slots] at X7 l7 y7 z7 st7 hQ7
        subst l7 y7 z7
        obtain ⟨rfl, N7q, hh7⟩ := hQ7
        have N7 := Fr.app N6 N7q
        refine own_go (T' := T7) (f' := (mkF m 102 #[.val (.int p0), .val (.int p1), .val (.int p2), .val (.int p3), .val (.int (1 : Int32)), .val (.int zm), .val (.int zy), .val (.int (-1 : Int32)), .val (.ref wNOT_EQUAL), .val (.int (1 : Int32))] [(.int (-1 : Int32)), (.int (1 : Int32)), (.int (1 : Int32))])) (fun _ k => st7.trans (XS.istore X7.here hx rfl (hb hby at_94) rfl (l' := #[.val (.int p0), .val (.int p1), .val (.int p2), .val (.int p3), .val (.int (1 : Int32)), .val (.int zm), .val (.int zy), .val (.int (-1 : Int32)), .val (.ref wNOT_EQUAL), .val (.int (1 : Int32))]) rfl (XS.iload X7.here hx rfl (hb hby at_96) rfl (XS.iload X7.here hx rfl (hb hby at_98) rfl (XS.iload X7.here hx rfl (hb hby at_100) rfl k))))) ?_
        obtain ⟨_, _, ⟨T8, L8, k8, n8⟩, -, X8, ⟨Lc8, hQ8, l8, y8, z8⟩, st8⟩ := Jvm.LawKit.callS X7 hx (y := mn4) hown (mvT hZ (ow22 hw)) (mvT hZ (ow23 hw)) (mvT hZ (ow3 hw)) (mvT hZ (ow24 hw)) (by decide) (backOf (W := 1) (rm4_1lt l Z a0 hw [] h0 n0 Z0) hZ (ow24 hw) (ow3 hw) (by decide) (by decide)) (g := (mkF m 102 #[.val (.int p0), .val (.int p1), .val (.int p2), .val (.int p3), .val (.int (1 : Int32)), .val (.int zm), .val (.int zy), .val (.int (-1 : Int32)), .val (.ref wNOT_EQUAL), .val (.int (1 : Int32))] [(.int (-1 : Int32)), (.int (1 : Int32)), (.int (1 : Int32))])) rfl (by rw [hml]; rfl) (argsL := [(.int (1 : Int32)), (.int (-1 : Int32))]) (rest := [(.int (1 : Int32))]) (lenOf pd3 rfl) rfl (by show 2 * 0 + _ ≤ _; exact Nat.le_of_eq rfl) (hb hby at_102) (fun _ _ => ⟨rfl, hh7, (by decide : 0 + 0 ≤ _), (by decide : 0 + 0 ≤ _)⟩)
        dsimp only [Pt.U, Pt.locs, Pt.cells, Pt.slots] at X8 l8 y8 z8 st8 hQ8
        subst l8 y8 z8
        obtain ⟨rfl, N8q, hh8⟩ := hQ8
        have N8 := Fr.app N7 N8q
        refine own_go (T' := T8) (f' := (mkF m 113 #[.val (.int p0), .val (.int p1), .val (.int p2), .val (.int p3), .val (.int (1 : Int32)), .val (.int zm), .val (.int zy), .val (.int (-1 : Int32)), .val (.ref wNOT_EQUAL), .val (.int (1 : Int32))] [(.int (1 : Int32))])) (fun _ k => st8 _ (XS.icmpNo X8.here hx rfl (hb hby at_105) rfl (teq (by decide : ((1 : Int32) = (1 : Int32)))).2 (XS.iconst X8.here hx rfl (hb hby at_108) (XS.goto X8.here hx rfl (pc0 := 109) (pc' := 113) rfl (hb hby at_109) (by decide) (by decide) k)))) ?_
        refine own_ret X8 (v := some (.int (1 : Int32))) (fun h => by rw [Bd.returns] at h; cases h) Bd.notSynchronized (fun fs hr => retN X8 hx (t := .boolean) Bd.returns (by simp) (hb hby at_113) hr) ?_ (by decide) (by decide)
        show Q0 Z p0 p1 p2 p3 wEQUAL wNOT_EQUAL wLESS wLESS_OR_EQUAL wGREATER wGREATER_OR_EQUAL h0 n0 _ T8.heap _
        exact ⟨rfl, N8⟩
      · refine own_go (T' := s₁) (f' := (mkF m 79 #[.val (.int p0), .val (.int p1), .val (.int p2), .val (.int p3), .val (.int (2 : Int32)), .val (.int zm), .val (.int zy), .val (.int (-1 : Int32)), .unset, .unset] [(.int (2 : Int32))])) (fun _ k => XS.iload X0.here hx rfl (hb hby at_77) rfl k) ?_
        obtain ⟨_, _, ⟨T9, L9, k9, n9⟩, -, X9, ⟨Lc9, hQ9, l9, y9, z9⟩, st9⟩ := Jvm.LawKit.callS X0 hx (y := mn3) hown (mvT hZ (ow1 hw)) (mvT hZ (ow2 hw)) (mvT hZ (ow3 hw)) (mvT hZ (ow4 hw)) (by decide) (backOf (W := 0) (rm1_2 l Z a0 hw [] wEQUAL wNOT_EQUAL wLESS wLESS_OR_EQUAL wGREATER wGREATER_OR_EQUAL h0 n0 Z0 S_EQUAL S_NOT_EQUAL S_LESS S_LESS_OR_EQUAL S_GREATER S_GREATER_OR_EQUAL) hZ (ow4 hw) (ow3 hw) (by decide) (by decide)) (g := (mkF m 79 #[.val (.int p0), .val (.int p1), .val (.int p2), .val (.int p3), .val (.int (2 : Int32)), .val (.int zm), .val (.int zy), .val (.int (-1 : Int32)), .unset, .unset] [(.int (2 : Int32))])) rfl (by rw [hml]; rfl) (argsL := [(.int (2 : Int32))]) (rest := []) (lenOf pd2 rfl) rfl (by show 2 * 0 + _ ≤ _; exact Nat.le_of_eq rfl) (hb hby at_79) (fun _ _ => ⟨rfl, e0, (by decide : 0 + 0 ≤ _), (by decide : 0 + 0 ≤ _)⟩)
        dsimp only [Pt.U, Pt.locs, Pt.cells, Pt.slots] at X9 l9 y9 z9 st9 hQ9
        subst l9 y9 z9
        obtain ⟨rfl, N9q, hh9⟩ := hQ9
        have N9 := Fr.app N0 N9q
        refine own_go (T' := T9) (f' := (mkF m 90 #[.val (.int p0), .val (.int p1), .val (.int p2), .val (.int p3), .val (.int (2 : Int32)), .val (.int zm), .val (.int zy), .val (.int (-1 : Int32)), .val (.ref wLESS), .unset] [(.int zy), (.double (FP.i2d p1)), (.ref wLESS)])) (fun _ k => st9 _ (XS.astore X9.here hx rfl (hb hby at_82) rfl rfl (l' := #[.val (.int p0), .val (.int p1), .val (.int p2), .val (.int p3), .val (.int (2 : Int32)), .val (.int zm), .val (.int zy), .val (.int (-1 : Int32)), .val (.ref wLESS), .unset]) rfl (XS.aload X9.here hx rfl (hb hby at_84) rfl rfl (XS.iloadN X9.here hx rfl (hb hby at_86) rfl (own_i2d X9.here hx rfl (hb hby at_87) rfl (XS.iload X9.here hx rfl (hb hby at_88) rfl k)))))) ?_
        refine own_go (T' := T9) (f' := (mkF m 91 #[.val (.int p0), .val (.int p1), .val (.int p2), .val (.int p3), .val (.int (2 : Int32)), .val (.int zm), .val (.int zy), .val (.int (-1 : Int32)), .val (.ref wLESS), .unset] [(.double (FP.i2d zy)), (.double (FP.i2d p1)), (.ref wLESS)])) (fun _ k => own_i2d X9.here hx rfl (hb hby at_90) rfl k) ?_
        obtain ⟨cq10, kq10, q10a, q10b, q10c⟩ := isOf hZ hh9 E_LESS
        obtain ⟨_, _, ⟨T10, L10, k10, n10⟩, -, X10, ⟨Lc10, hQ10, l10, y10, z10⟩, st10⟩ := X9.virtualBack hx (y := mn2) (z := mn2) hown (mvT hZ (ow8 hw)) (mvT hZ (ow9 hw)) (notFace_of_selects (args := #[]) (mvT hZ (ow11 hw))) (mvT hZ (ow11 hw)) (mvT hZ (ow10 hw)) (by decide) (backOf (W := 0) (rm2_2lt l Z a0 hw [] wLESS (FP.i2d p1) (FP.i2d zy) h0 n0 Z0 O_LESS E_LESS hdc) hZ (ow12 hw) (ow6 hw) (by decide) (by decide)) q10a q10c (g := (mkF m 91 #[.val (.int p0), .val (.int p1), .val (.int p2), .val (.int p3), .val (.int (2 : Int32)), .val (.int zm), .val (.int zy), .val (.int (-1 : Int32)), .val (.ref wLESS), .unset] [(.double (FP.i2d zy)), (.double (FP.i2d p1)), (.ref wLESS)])) rfl (by rw [hml]; rfl) (Steps.refl _) (argsL := [(.double (FP.i2d p1)), (.double (FP.i2d zy))]) (rest := []) (lenOf pd1 rfl) rfl (by show 2 * 0 + _ ≤ _; exact Nat.le_of_eq rfl) (hb hby at_91) (fun _ _ => ⟨rfl, hh9, (by decide : 0 + 0 ≤ _), (by decide : 0 + 0 ≤ _)⟩)
        dsimp only [Pt.U, Pt.locs, Pt.cells, Pt.slots] at X10 l10 y10 z10 st10 hQ10
        subst l10 y10 z10
        obtain ⟨rfl, N10q, hh10⟩ := hQ10
        have N10 := Fr.app N9 N10q
        refine own_go (T' := T10) (f' := (mkF m 102 #[.val (.int p0), .val (.int p1), .val (.int p2), .val (.int p3), .val (.int (2 : Int32)), .val (.int zm), .val (.int zy), .val (.int (-1 : Int32)), .val (.ref wLESS), .val (.int (1 : Int32))] [(.int (-1 : Int32)), (.int (2 : Int32)), (.int (1 : Int32))])) (fun _ k => st10.trans (XS.istore X10.here hx rfl (hb hby at_94) rfl (l' := #[.val (.int p0), .val (.int p1), .val (.int p2), .val (.int p3), .val (.int (2 : Int32)), .val (.int zm), .val (.int zy), .val (.int (-1 : Int32)), .val (.ref wLESS), .val (.int (1 : Int32))]) rfl (XS.iload X10.here hx rfl (hb hby at_96) rfl (XS.iload X10.here hx rfl (hb hby at_98) rfl (XS.iload X10.here hx rfl (hb hby at_100) rfl k))))) ?_
        obtain ⟨_, _, ⟨T11, L11, k11, n11⟩, -, X11, ⟨Lc11, hQ11, l11, y11, z11⟩, st11⟩ := Jvm.LawKit.callS X10 hx (y := mn4) hown (mvT hZ (ow22 hw)) (mvT hZ (ow23 hw)) (mvT hZ (ow3 hw)) (mvT hZ (ow24 hw)) (by decide) (backOf (W := 1) (rm4_2lt l Z a0 hw [] h0 n0 Z0) hZ (ow24 hw) (ow3 hw) (by decide) (by decide)) (g := (mkF m 102 #[.val (.int p0), .val (.int p1), .val (.int p2), .val (.int p3), .val (.int (2 : Int32)), .val (.int zm), .val (.int zy), .val (.int (-1 : Int32)), .val (.ref wLESS), .val (.int (1 : Int32))] [(.int (-1 : Int32)), (.int (2 : Int32)), (.int (1 : Int32))])) rfl (by rw [hml]; rfl) (argsL := [(.int (2 : Int32)), (.int (-1 : Int32))]) (rest := [(.int (1 : Int32))]) (lenOf pd3 rfl) rfl (by show 2 * 0 + _ ≤ _; exact Nat.le_of_eq rfl) (hb hby at_102) (fun _ _ => ⟨rfl, hh10, (by decide : 0 + 0 ≤ _), (by decide : 0 + 0 ≤ _)⟩)
        dsimp only [Pt.U, Pt.locs, Pt.cells, Pt.slots] at X11 l11 y11 z11 st11 hQ11
        subst l11 y11 z11
        obtain ⟨rfl, N11q, hh11⟩ := hQ11
        have N11 := Fr.app N10 N11q
        refine own_go (T' := T11) (f' := (mkF m 113 #[.val (.int p0), .val (.int p1), .val (.int p2), .val (.int p3), .val (.int (2 : Int32)), .val (.int zm), .val (.int zy), .val (.int (-1 : Int32)), .val (.ref wLESS), .val (.int (1 : Int32))] [(.int (1 : Int32))])) (fun _ k => st11 _ (XS.icmpNo X11.here hx rfl (hb hby at_105) rfl (teq (by decide : ((1 : Int32) = (1 : Int32)))).2 (XS.iconst X11.here hx rfl (hb hby at_108) (XS.goto X11.here hx rfl (pc0 := 109) (pc' := 113) rfl (hb hby at_109) (by decide) (by decide) k)))) ?_
        refine own_ret X11 (v := some (.int (1 : Int32))) (fun h => by rw [Bd.returns] at h; cases h) Bd.notSynchronized (fun fs hr => retN X11 hx (t := .boolean) Bd.returns (by simp) (hb hby at_113) hr) ?_ (by decide) (by decide)
        show Q0 Z p0 p1 p2 p3 wEQUAL wNOT_EQUAL wLESS wLESS_OR_EQUAL wGREATER wGREATER_OR_EQUAL h0 n0 _ T11.heap _
        exact ⟨rfl, N11⟩
      · refine own_go (T' := s₁) (f' := (mkF m 79 #[.val (.int p0), .val (.int p1), .val (.int p2), .val (.int p3), .val (.int (3 : Int32)), .val (.int zm), .val (.int zy), .val (.int (-1 : Int32)), .unset, .unset] [(.int (3 : Int32))])) (fun _ k => XS.iload X0.here hx rfl (hb hby at_77) rfl k) ?_
        obtain ⟨_, _, ⟨T12, L12, k12, n12⟩, -, X12, ⟨Lc12, hQ12, l12, y12, z12⟩, st12⟩ := Jvm.LawKit.callS X0 hx (y := mn3) hown (mvT hZ (ow1 hw)) (mvT hZ (ow2 hw)) (mvT hZ (ow3 hw)) (mvT hZ (ow4 hw)) (by decide) (backOf (W := 0) (rm1_3 l Z a0 hw [] wEQUAL wNOT_EQUAL wLESS wLESS_OR_EQUAL wGREATER wGREATER_OR_EQUAL h0 n0 Z0 S_EQUAL S_NOT_EQUAL S_LESS S_LESS_OR_EQUAL S_GREATER S_GREATER_OR_EQUAL) hZ (ow4 hw) (ow3 hw) (by decide) (by decide)) (g := (mkF m 79 #[.val (.int p0), .val (.int p1), .val (.int p2), .val (.int p3), .val (.int (3 : Int32)), .val (.int zm), .val (.int zy), .val (.int (-1 : Int32)), .unset, .unset] [(.int (3 : Int32))])) rfl (by rw [hml]; rfl) (argsL := [(.int (3 : Int32))]) (rest := []) (lenOf pd2 rfl) rfl (by show 2 * 0 + _ ≤ _; exact Nat.le_of_eq rfl) (hb hby at_79) (fun _ _ => ⟨rfl, e0, (by decide : 0 + 0 ≤ _), (by decide : 0 + 0 ≤ _)⟩)
        dsimp only [Pt.U, Pt.locs, Pt.cells, Pt.slots] at X12 l12 y12 z12 st12 hQ12
        subst l12 y12 z12
        obtain ⟨rfl, N12q, hh12⟩ := hQ12
        have N12 := Fr.app N0 N12q
        refine own_go (T' := T12) (f' := (mkF m 90 #[.val (.int p0), .val (.int p1), .val (.int p2), .val (.int p3), .val (.int (3 : Int32)), .val (.int zm), .val (.int zy), .val (.int (-1 : Int32)), .val (.ref wLESS_OR_EQUAL), .unset] [(.int zy), (.double (FP.i2d p1)), (.ref wLESS_OR_EQUAL)])) (fun _ k => st12 _ (XS.astore X12.here hx rfl (hb hby at_82) rfl rfl (l' := #[.val (.int p0), .val (.int p1), .val (.int p2), .val (.int p3), .val (.int (3 : Int32)), .val (.int zm), .val (.int zy), .val (.int (-1 : Int32)), .val (.ref wLESS_OR_EQUAL), .unset]) rfl (XS.aload X12.here hx rfl (hb hby at_84) rfl rfl (XS.iloadN X12.here hx rfl (hb hby at_86) rfl (own_i2d X12.here hx rfl (hb hby at_87) rfl (XS.iload X12.here hx rfl (hb hby at_88) rfl k)))))) ?_
        refine own_go (T' := T12) (f' := (mkF m 91 #[.val (.int p0), .val (.int p1), .val (.int p2), .val (.int p3), .val (.int (3 : Int32)), .val (.int zm), .val (.int zy), .val (.int (-1 : Int32)), .val (.ref wLESS_OR_EQUAL), .unset] [(.double (FP.i2d zy)), (.double (FP.i2d p1)), (.ref wLESS_OR_EQUAL)])) (fun _ k => own_i2d X12.here hx rfl (hb hby at_90) rfl k) ?_
        obtain ⟨cq13, kq13, q13a, q13b, q13c⟩ := isOf hZ hh12 E_LESS_OR_EQUAL
        obtain ⟨_, _, ⟨T13, L13, k13, n13⟩, -, X13, ⟨Lc13, hQ13, l13, y13, z13⟩, st13⟩ := X12.virtualBack hx (y := mn2) (z := mn2) hown (mvT hZ (ow8 hw)) (mvT hZ (ow9 hw)) (notFace_of_selects (args := #[]) (mvT hZ (ow11 hw))) (mvT hZ (ow11 hw)) (mvT hZ (ow10 hw)) (by decide) (backOf (W := 0) (rm2_3lt l Z a0 hw [] wLESS_OR_EQUAL (FP.i2d p1) (FP.i2d zy) h0 n0 Z0 O_LESS_OR_EQUAL E_LESS_OR_EQUAL hdc) hZ (ow12 hw) (ow6 hw) (by decide) (by decide)) q13a q13c (g := (mkF m 91 #[.val (.int p0), .val (.int p1), .val (.int p2), .val (.int p3), .val (.int (3 : Int32)), .val (.int zm), .val (.int zy), .val (.int (-1 : Int32)), .val (.ref wLESS_OR_EQUAL), .unset] [(.double (FP.i2d zy)), (.double (FP.i2d p1)), (.ref wLESS_OR_EQUAL)])) rfl (by rw [hml]; rfl) (Steps.refl _) (argsL := [(.double (FP.i2d p1)), (.double (FP.i2d zy))]) (rest := []) (lenOf pd1 rfl) rfl (by show 2 * 0 + _ ≤ _; exact Nat.le_of_eq rfl) (hb hby at_91) (fun _ _ => ⟨rfl, hh12, (by decide : 0 + 0 ≤ _), (by decide : 0 + 0 ≤ _)⟩)
        dsimp only [Pt.U, Pt.locs, Pt.cells, Pt.slots] at X13 l13 y13 z13 st13 hQ13
        subst l13 y13 z13
        obtain ⟨rfl, N13q, hh13⟩ := hQ13
        have N13 := Fr.app N12 N13q
        refine own_go (T' := T13) (f' := (mkF m 102 #[.val (.int p0), .val (.int p1), .val (.int p2), .val (.int p3), .val (.int (3 : Int32)), .val (.int zm), .val (.int zy), .val (.int (-1 : Int32)), .val (.ref wLESS_OR_EQUAL), .val (.int (1 : Int32))] [(.int (-1 : Int32)), (.int (3 : Int32)), (.int (1 : Int32))])) (fun _ k => st13.trans (XS.istore X13.here hx rfl (hb hby at_94) rfl (l' := #[.val (.int p0), .val (.int p1), .val (.int p2), .val (.int p3), .val (.int (3 : Int32)), .val (.int zm), .val (.int zy), .val (.int (-1 : Int32)), .val (.ref wLESS_OR_EQUAL), .val (.int (1 : Int32))]) rfl (XS.iload X13.here hx rfl (hb hby at_96) rfl (XS.iload X13.here hx rfl (hb hby at_98) rfl (XS.iload X13.here hx rfl (hb hby at_100) rfl k))))) ?_
        obtain ⟨_, _, ⟨T14, L14, k14, n14⟩, -, X14, ⟨Lc14, hQ14, l14, y14, z14⟩, st14⟩ := Jvm.LawKit.callS X13 hx (y := mn4) hown (mvT hZ (ow22 hw)) (mvT hZ (ow23 hw)) (mvT hZ (ow3 hw)) (mvT hZ (ow24 hw)) (by decide) (backOf (W := 1) (rm4_3lt l Z a0 hw [] h0 n0 Z0) hZ (ow24 hw) (ow3 hw) (by decide) (by decide)) (g := (mkF m 102 #[.val (.int p0), .val (.int p1), .val (.int p2), .val (.int p3), .val (.int (3 : Int32)), .val (.int zm), .val (.int zy), .val (.int (-1 : Int32)), .val (.ref wLESS_OR_EQUAL), .val (.int (1 : Int32))] [(.int (-1 : Int32)), (.int (3 : Int32)), (.int (1 : Int32))])) rfl (by rw [hml]; rfl) (argsL := [(.int (3 : Int32)), (.int (-1 : Int32))]) (rest := [(.int (1 : Int32))]) (lenOf pd3 rfl) rfl (by show 2 * 0 + _ ≤ _; exact Nat.le_of_eq rfl) (hb hby at_102) (fun _ _ => ⟨rfl, hh13, (by decide : 0 + 0 ≤ _), (by decide : 0 + 0 ≤ _)⟩)
        dsimp only [Pt.U, Pt.locs, Pt.cells, Pt.slots] at X14 l14 y14 z14 st14 hQ14
        subst l14 y14 z14
        obtain ⟨rfl, N14q, hh14⟩ := hQ14
        have N14 := Fr.app N13 N14q
        refine own_go (T' := T14) (f' := (mkF m 113 #[.val (.int p0), .val (.int p1), .val (.int p2), .val (.int p3), .val (.int (3 : Int32)), .val (.int zm), .val (.int zy), .val (.int (-1 : Int32)), .val (.ref wLESS_OR_EQUAL), .val (.int (1 : Int32))] [(.int (1 : Int32))])) (fun _ k => st14 _ (XS.icmpNo X14.here hx rfl (hb hby at_105) rfl (teq (by decide : ((1 : Int32) = (1 : Int32)))).2 (XS.iconst X14.here hx rfl (hb hby at_108) (XS.goto X14.here hx rfl (pc0 := 109) (pc' := 113) rfl (hb hby at_109) (by decide) (by decide) k)))) ?_
        refine own_ret X14 (v := some (.int (1 : Int32))) (fun h => by rw [Bd.returns] at h; cases h) Bd.notSynchronized (fun fs hr => retN X14 hx (t := .boolean) Bd.returns (by simp) (hb hby at_113) hr) ?_ (by decide) (by decide)
        show Q0 Z p0 p1 p2 p3 wEQUAL wNOT_EQUAL wLESS wLESS_OR_EQUAL wGREATER wGREATER_OR_EQUAL h0 n0 _ T14.heap _
        exact ⟨rfl, N14⟩
      · refine own_go (T' := s₁) (f' := (mkF m 79 #[.val (.int p0), .val (.int p1), .val (.int p2), .val (.int p3), .val (.int (4 : Int32)), .val (.int zm), .val (.int zy), .val (.int (-1 : Int32)), .unset, .unset] [(.int (4 : Int32))])) (fun _ k => XS.iload X0.here hx rfl (hb hby at_77) rfl k) ?_
        obtain ⟨_, _, ⟨T15, L15, k15, n15⟩, -, X15, ⟨Lc15, hQ15, l15, y15, z15⟩, st15⟩ := Jvm.LawKit.callS X0 hx (y := mn3) hown (mvT hZ (ow1 hw)) (mvT hZ (ow2 hw)) (mvT hZ (ow3 hw)) (mvT hZ (ow4 hw)) (by decide) (backOf (W := 0) (rm1_4 l Z a0 hw [] wEQUAL wNOT_EQUAL wLESS wLESS_OR_EQUAL wGREATER wGREATER_OR_EQUAL h0 n0 Z0 S_EQUAL S_NOT_EQUAL S_LESS S_LESS_OR_EQUAL S_GREATER S_GREATER_OR_EQUAL) hZ (ow4 hw) (ow3 hw) (by decide) (by decide)) (g := (mkF m 79 #[.val (.int p0), .val (.int p1), .val (.int p2), .val (.int p3), .val (.int (4 : Int32)), .val (.int zm), .val (.int zy), .val (.int (-1 : Int32)), .unset, .unset] [(.int (4 : Int32))])) rfl (by rw [hml]; rfl) (argsL := [(.int (4 : Int32))]) (rest := []) (lenOf pd2 rfl) rfl (by show 2 * 0 + _ ≤ _; exact Nat.le_of_eq rfl) (hb hby at_79) (fun _ _ => ⟨rfl, e0, (by decide : 0 + 0 ≤ _), (by decide : 0 + 0 ≤ _)⟩)
        dsimp only [Pt.U, Pt.locs, Pt.cells, Pt.slots] at X15 l15 y15 z15 st15 hQ15
        subst l15 y15 z15
        obtain ⟨rfl, N15q, hh15⟩ := hQ15
        have N15 := Fr.app N0 N15q
        refine own_go (T' := T15) (f' := (mkF m 90 #[.val (.int p0), .val (.int p1), .val (.int p2), .val (.int p3), .val (.int (4 : Int32)), .val (.int zm), .val (.int zy), .val (.int (-1 : Int32)), .val (.ref wGREATER), .unset] [(.int zy), (.double (FP.i2d p1)), (.ref wGREATER)])) (fun _ k => st15 _ (XS.astore X15.here hx rfl (hb hby at_82) rfl rfl (l' := #[.val (.int p0), .val (.int p1), .val (.int p2), .val (.int p3), .val (.int (4 : Int32)), .val (.int zm), .val (.int zy), .val (.int (-1 : Int32)), .val (.ref wGREATER), .unset]) rfl (XS.aload X15.here hx rfl (hb hby at_84) rfl rfl (XS.iloadN X15.here hx rfl (hb hby at_86) rfl (own_i2d X15.here hx rfl (hb hby at_87) rfl (XS.iload X15.here hx rfl (hb hby at_88) rfl k)))))) ?_
        refine own_go (T' := T15) (f' := (mkF m 91 #[.val (.int p0), .val (.int p1), .val (.int p2), .val (.int p3), .val (.int (4 : Int32)), .val (.int zm), .val (.int zy), .val (.int (-1 : Int32)), .val (.ref wGREATER), .unset] [(.double (FP.i2d zy)), (.double (FP.i2d p1)), (.ref wGREATER)])) (fun _ k => own_i2d X15.here hx rfl (hb hby at_90) rfl k) ?_
        obtain ⟨cq16, kq16, q16a, q16b, q16c⟩ := isOf hZ hh15 E_GREATER
        obtain ⟨_, _, ⟨T16, L16, k16, n16⟩, -, X16, ⟨Lc16, hQ16, l16, y16, z16⟩, st16⟩ := X15.virtualBack hx (y := mn2) (z := mn2) hown (mvT hZ (ow8 hw)) (mvT hZ (ow9 hw)) (notFace_of_selects (args := #[]) (mvT hZ (ow11 hw))) (mvT hZ (ow11 hw)) (mvT hZ (ow10 hw)) (by decide) (backOf (W := 0) (rm2_4lt l Z a0 hw [] wGREATER (FP.i2d p1) (FP.i2d zy) h0 n0 Z0 O_GREATER E_GREATER hdc) hZ (ow12 hw) (ow6 hw) (by decide) (by decide)) q16a q16c (g := (mkF m 91 #[.val (.int p0), .val (.int p1), .val (.int p2), .val (.int p3), .val (.int (4 : Int32)), .val (.int zm), .val (.int zy), .val (.int (-1 : Int32)), .val (.ref wGREATER), .unset] [(.double (FP.i2d zy)), (.double (FP.i2d p1)), (.ref wGREATER)])) rfl (by rw [hml]; rfl) (Steps.refl _) (argsL := [(.double (FP.i2d p1)), (.double (FP.i2d zy))]) (rest := []) (lenOf pd1 rfl) rfl (by show 2 * 0 + _ ≤ _; exact Nat.le_of_eq rfl) (hb hby at_91) (fun _ _ => ⟨rfl, hh15, (by decide : 0 + 0 ≤ _), (by decide : 0 + 0 ≤ _)⟩)
        dsimp only [Pt.U, Pt.locs, Pt.cells, Pt.slots] at X16 l16 y16 z16 st16 hQ16
        subst l16 y16 z16
        obtain ⟨rfl, N16q, hh16⟩ := hQ16
        have N16 := Fr.app N15 N16q
        refine own_go (T' := T16) (f' := (mkF m 102 #[.val (.int p0), .val (.int p1), .val (.int p2), .val (.int p3), .val (.int (4 : Int32)), .val (.int zm), .val (.int zy), .val (.int (-1 : Int32)), .val (.ref wGREATER), .val (.int (0 : Int32))] [(.int (-1 : Int32)), (.int (4 : Int32)), (.int (0 : Int32))])) (fun _ k => st16.trans (XS.istore X16.here hx rfl (hb hby at_94) rfl (l' := #[.val (.int p0), .val (.int p1), .val (.int p2), .val (.int p3), .val (.int (4 : Int32)), .val (.int zm), .val (.int zy), .val (.int (-1 : Int32)), .val (.ref wGREATER), .val (.int (0 : Int32))]) rfl (XS.iload X16.here hx rfl (hb hby at_96) rfl (XS.iload X16.here hx rfl (hb hby at_98) rfl (XS.iload X16.here hx rfl (hb hby at_100) rfl k))))) ?_
        obtain ⟨_, _, ⟨T17, L17, k17, n17⟩, -, X17, ⟨Lc17, hQ17, l17, y17, z17⟩, st17⟩ := Jvm.LawKit.callS X16 hx (y := mn4) hown (mvT hZ (ow22 hw)) (mvT hZ (ow23 hw)) (mvT hZ (ow3 hw)) (mvT hZ (ow24 hw)) (by decide) (backOf (W := 1) (rm4_4lt l Z a0 hw [] h0 n0 Z0) hZ (ow24 hw) (ow3 hw) (by decide) (by decide)) (g := (mkF m 102 #[.val (.int p0), .val (.int p1), .val (.int p2), .val (.int p3), .val (.int (4 : Int32)), .val (.int zm), .val (.int zy), .val (.int (-1 : Int32)), .val (.ref wGREATER), .val (.int (0 : Int32))] [(.int (-1 : Int32)), (.int (4 : Int32)), (.int (0 : Int32))])) rfl (by rw [hml]; rfl) (argsL := [(.int (4 : Int32)), (.int (-1 : Int32))]) (rest := [(.int (0 : Int32))]) (lenOf pd3 rfl) rfl (by show 2 * 0 + _ ≤ _; exact Nat.le_of_eq rfl) (hb hby at_102) (fun _ _ => ⟨rfl, hh16, (by decide : 0 + 0 ≤ _), (by decide : 0 + 0 ≤ _)⟩)
        dsimp only [Pt.U, Pt.locs, Pt.cells, Pt.slots] at X17 l17 y17 z17 st17 hQ17
        subst l17 y17 z17
        obtain ⟨rfl, N17q, hh17⟩ := hQ17
        have N17 := Fr.app N16 N17q
        refine own_go (T' := T17) (f' := (mkF m 113 #[.val (.int p0), .val (.int p1), .val (.int p2), .val (.int p3), .val (.int (4 : Int32)), .val (.int zm), .val (.int zy), .val (.int (-1 : Int32)), .val (.ref wGREATER), .val (.int (0 : Int32))] [(.int (1 : Int32))])) (fun _ k => st17 _ (XS.icmpNo X17.here hx rfl (hb hby at_105) rfl (teq (by decide : ((0 : Int32) = (0 : Int32)))).2 (XS.iconst X17.here hx rfl (hb hby at_108) (XS.goto X17.here hx rfl (pc0 := 109) (pc' := 113) rfl (hb hby at_109) (by decide) (by decide) k)))) ?_
        refine own_ret X17 (v := some (.int (1 : Int32))) (fun h => by rw [Bd.returns] at h; cases h) Bd.notSynchronized (fun fs hr => retN X17 hx (t := .boolean) Bd.returns (by simp) (hb hby at_113) hr) ?_ (by decide) (by decide)
        show Q0 Z p0 p1 p2 p3 wEQUAL wNOT_EQUAL wLESS wLESS_OR_EQUAL wGREATER wGREATER_OR_EQUAL h0 n0 _ T17.heap _
        exact ⟨rfl, N17⟩
      · refine own_go (T' := s₁) (f' := (mkF m 79 #[.val (.int p0), .val (.int p1), .val (.int p2), .val (.int p3), .val (.int (5 : Int32)), .val (.int zm), .val (.int zy), .val (.int (-1 : Int32)), .unset, .unset] [(.int (5 : Int32))])) (fun _ k => XS.iload X0.here hx rfl (hb hby at_77) rfl k) ?_
        obtain ⟨_, _, ⟨T18, L18, k18, n18⟩, -, X18, ⟨Lc18, hQ18, l18, y18, z18⟩, st18⟩ := Jvm.LawKit.callS X0 hx (y := mn3) hown (mvT hZ (ow1 hw)) (mvT hZ (ow2 hw)) (mvT hZ (ow3 hw)) (mvT hZ (ow4 hw)) (by decide) (backOf (W := 0) (rm1_5 l Z a0 hw [] wEQUAL wNOT_EQUAL wLESS wLESS_OR_EQUAL wGREATER wGREATER_OR_EQUAL h0 n0 Z0 S_EQUAL S_NOT_EQUAL S_LESS S_LESS_OR_EQUAL S_GREATER S_GREATER_OR_EQUAL) hZ (ow4 hw) (ow3 hw) (by decide) (by decide)) (g := (mkF m 79 #[.val (.int p0), .val (.int p1), .val (.int p2), .val (.int p3), .val (.int (5 : Int32)), .val (.int zm), .val (.int zy), .val (.int (-1 : Int32)), .unset, .unset] [(.int (5 : Int32))])) rfl (by rw [hml]; rfl) (argsL := [(.int (5 : Int32))]) (rest := []) (lenOf pd2 rfl) rfl (by show 2 * 0 + _ ≤ _; exact Nat.le_of_eq rfl) (hb hby at_79) (fun _ _ => ⟨rfl, e0, (by decide : 0 + 0 ≤ _), (by decide : 0 + 0 ≤ _)⟩)
        dsimp only [Pt.U, Pt.locs, Pt.cells, Pt.slots] at X18 l18 y18 z18 st18 hQ18
        subst l18 y18 z18
        obtain ⟨rfl, N18q, hh18⟩ := hQ18
        have N18 := Fr.app N0 N18q
        refine own_go (T' := T18) (f' := (mkF m 90 #[.val (.int p0), .val (.int p1), .val (.int p2), .val (.int p3), .val (.int (5 : Int32)), .val (.int zm), .val (.int zy), .val (.int (-1 : Int32)), .val (.ref wGREATER_OR_EQUAL), .unset] [(.int zy), (.double (FP.i2d p1)), (.ref wGREATER_OR_EQUAL)])) (fun _ k => st18 _ (XS.astore X18.here hx rfl (hb hby at_82) rfl rfl (l' := #[.val (.int p0), .val (.int p1), .val (.int p2), .val (.int p3), .val (.int (5 : Int32)), .val (.int zm), .val (.int zy), .val (.int (-1 : Int32)), .val (.ref wGREATER_OR_EQUAL), .unset]) rfl (XS.aload X18.here hx rfl (hb hby at_84) rfl rfl (XS.iloadN X18.here hx rfl (hb hby at_86) rfl (own_i2d X18.here hx rfl (hb hby at_87) rfl (XS.iload X18.here hx rfl (hb hby at_88) rfl k)))))) ?_
        refine own_go (T' := T18) (f' := (mkF m 91 #[.val (.int p0), .val (.int p1), .val (.int p2), .val (.int p3), .val (.int (5 : Int32)), .val (.int zm), .val (.int zy), .val (.int (-1 : Int32)), .val (.ref wGREATER_OR_EQUAL), .unset] [(.double (FP.i2d zy)), (.double (FP.i2d p1)), (.ref wGREATER_OR_EQUAL)])) (fun _ k => own_i2d X18.here hx rfl (hb hby at_90) rfl k) ?_
        obtain ⟨cq19, kq19, q19a, q19b, q19c⟩ := isOf hZ hh18 E_GREATER_OR_EQUAL
        obtain ⟨_, _, ⟨T19, L19, k19, n19⟩, -, X19, ⟨Lc19, hQ19, l19, y19, z19⟩, st19⟩ := X18.virtualBack hx (y := mn2) (z := mn2) hown (mvT hZ (ow8 hw)) (mvT hZ (ow9 hw)) (notFace_of_selects (args := #[]) (mvT hZ (ow11 hw))) (mvT hZ (ow11 hw)) (mvT hZ (ow10 hw)) (by decide) (backOf (W := 0) (rm2_5lt l Z a0 hw [] wGREATER_OR_EQUAL (FP.i2d p1) (FP.i2d zy) h0 n0 Z0 O_GREATER_OR_EQUAL E_GREATER_OR_EQUAL hdc) hZ (ow12 hw) (ow6 hw) (by decide) (by decide)) q19a q19c (g := (mkF m 91 #[.val (.int p0), .val (.int p1), .val (.int p2), .val (.int p3), .val (.int (5 : Int32)), .val (.int zm), .val (.int zy), .val (.int (-1 : Int32)), .val (.ref wGREATER_OR_EQUAL), .unset] [(.double (FP.i2d zy)), (.double (FP.i2d p1)), (.ref wGREATER_OR_EQUAL)])) rfl (by rw [hml]; rfl) (Steps.refl _) (argsL := [(.double (FP.i2d p1)), (.double (FP.i2d zy))]) (rest := []) (lenOf pd1 rfl) rfl (by show 2 * 0 + _ ≤ _; exact Nat.le_of_eq rfl) (hb hby at_91) (fun _ _ => ⟨rfl, hh18, (by decide : 0 + 0 ≤ _), (by decide : 0 + 0 ≤ _)⟩)
        dsimp only [Pt.U, Pt.locs, Pt.cells, Pt.slots] at X19 l19 y19 z19 st19 hQ19
        subst l19 y19 z19
        obtain ⟨rfl, N19q, hh19⟩ := hQ19
        have N19 := Fr.app N18 N19q
        refine own_go (T' := T19) (f' := (mkF m 102 #[.val (.int p0), .val (.int p1), .val (.int p2), .val (.int p3), .val (.int (5 : Int32)), .val (.int zm), .val (.int zy), .val (.int (-1 : Int32)), .val (.ref wGREATER_OR_EQUAL), .val (.int (0 : Int32))] [(.int (-1 : Int32)), (.int (5 : Int32)), (.int (0 : Int32))])) (fun _ k => st19.trans (XS.istore X19.here hx rfl (hb hby at_94) rfl (l' := #[.val (.int p0), .val (.int p1), .val (.int p2), .val (.int p3), .val (.int (5 : Int32)), .val (.int zm), .val (.int zy), .val (.int (-1 : Int32)), .val (.ref wGREATER_OR_EQUAL), .val (.int (0 : Int32))]) rfl (XS.iload X19.here hx rfl (hb hby at_96) rfl (XS.iload X19.here hx rfl (hb hby at_98) rfl (XS.iload X19.here hx rfl (hb hby at_100) rfl k))))) ?_
        obtain ⟨_, _, ⟨T20, L20, k20, n20⟩, -, X20, ⟨Lc20, hQ20, l20, y20, z20⟩, st20⟩ := Jvm.LawKit.callS X19 hx (y := mn4) hown (mvT hZ (ow22 hw)) (mvT hZ (ow23 hw)) (mvT hZ (ow3 hw)) (mvT hZ (ow24 hw)) (by decide) (backOf (W := 1) (rm4_5lt l Z a0 hw [] h0 n0 Z0) hZ (ow24 hw) (ow3 hw) (by decide) (by decide)) (g := (mkF m 102 #[.val (.int p0), .val (.int p1), .val (.int p2), .val (.int p3), .val (.int (5 : Int32)), .val (.int zm), .val (.int zy), .val (.int (-1 : Int32)), .val (.ref wGREATER_OR_EQUAL), .val (.int (0 : Int32))] [(.int (-1 : Int32)), (.int (5 : Int32)), (.int (0 : Int32))])) rfl (by rw [hml]; rfl) (argsL := [(.int (5 : Int32)), (.int (-1 : Int32))]) (rest := [(.int (0 : Int32))]) (lenOf pd3 rfl) rfl (by show 2 * 0 + _ ≤ _; exact Nat.le_of_eq rfl) (hb hby at_102) (fun _ _ => ⟨rfl, hh19, (by decide : 0 + 0 ≤ _), (by decide : 0 + 0 ≤ _)⟩)
        dsimp only [Pt.U, Pt.locs, Pt.cells, Pt.slots] at X20 l20 y20 z20 st20 hQ20
        subst l20 y20 z20
        obtain ⟨rfl, N20q, hh20⟩ := hQ20
        have N20 := Fr.app N19 N20q
        refine own_go (T' := T20) (f' := (mkF m 113 #[.val (.int p0), .val (.int p1), .val (.int p2), .val (.int p3), .val (.int (5 : Int32)), .val (.int zm), .val (.int zy), .val (.int (-1 : Int32)), .val (.ref wGREATER_OR_EQUAL), .val (.int (0 : Int32))] [(.int (1 : Int32))])) (fun _ k => st20 _ (XS.icmpNo X20.here hx rfl (hb hby at_105) rfl (teq (by decide : ((0 : Int32) = (0 : Int32)))).2 (XS.iconst X20.here hx rfl (hb hby at_108) (XS.goto X20.here hx rfl (pc0 := 109) (pc' := 113) rfl (hb hby at_109) (by decide) (by decide) k)))) ?_
        refine own_ret X20 (v := some (.int (1 : Int32))) (fun h => by rw [Bd.returns] at h; cases h) Bd.notSynchronized (fun fs hr => retN X20 hx (t := .boolean) Bd.returns (by simp) (hb hby at_113) hr) ?_ (by decide) (by decide)
        show Q0 Z p0 p1 p2 p3 wEQUAL wNOT_EQUAL wLESS wLESS_OR_EQUAL wGREATER wGREATER_OR_EQUAL h0 n0 _ T20.heap _
        exact ⟨rfl, N20⟩
    · refine own_go (T' := s₁) (f' := (mkF m 67 #[.val (.int p0), .val (.int p1), .val (.int p2), .val (.int p3), .val (.int zk), .val (.int zm), .val (.int zy), .unset, .unset, .unset] [(.int zy), (.int p1)])) (fun _ k => XS.icmpYes X0.here hx rfl (pc0 := 57) (pc' := 64) rfl (hb hby at_57) rfl (flt hc2).2.1 (by decide) (by decide) (XS.iloadN X0.here hx rfl (hb hby at_64) rfl (XS.iload X0.here hx rfl (hb hby at_65) rfl k))) ?_
      by_cases hc21 : p1 = zy
      · refine own_go (T' := s₁) (f' := (mkF m 77 #[.val (.int p0), .val (.int p1), .val (.int p2), .val (.int p3), .val (.int zk), .val (.int zm), .val (.int zy), .val (.int (0 : Int32)), .unset, .unset] [])) (fun _ k => XS.icmpNo X0.here hx rfl (hb hby at_67) rfl (teq hc21).2 (XS.iconst X0.here hx rfl (hb hby at_70) (XS.goto X0.here hx rfl (pc0 := 71) (pc' := 75) rfl (hb hby at_71) (by decide) (by decide) (XS.istore X0.here hx rfl (hb hby at_75) rfl (l' := #[.val (.int p0), .val (.int p1), .val (.int p2), .val (.int p3), .val (.int zk), .val (.int zm), .val (.int zy), .val (.int (0 : Int32)), .unset, .unset]) rfl k)))) ?_
        have hdc : FP.dcmp (FP.i2d p1) (FP.i2d zy) = some .eq := own_deq hc21
        have hck := own_mod6 _ hzk
        rcases hck with rfl | rfl | rfl | rfl | rfl | rfl
        · refine own_go (T' := s₁) (f' := (mkF m 79 #[.val (.int p0), .val (.int p1), .val (.int p2), .val (.int p3), .val (.int (0 : Int32)), .val (.int zm), .val (.int zy), .val (.int (0 : Int32)), .unset, .unset] [(.int (0 : Int32))])) (fun _ k => XS.iload X0.here hx rfl (hb hby at_77) rfl k) ?_
          obtain ⟨_, _, ⟨T22, L22, k22, n22⟩, -, X22, ⟨Lc22, hQ22, l22, y22, z22⟩, st22⟩ := Jvm.LawKit.callS X0 hx (y := mn3) hown (mvT hZ (ow1 hw)) (mvT hZ (ow2 hw)) (mvT hZ (ow3 hw)) (mvT hZ (ow4 hw)) (by decide) (backOf (W := 0) (rm1_0 l Z a0 hw [] wEQUAL wNOT_EQUAL wLESS wLESS_OR_EQUAL wGREATER wGREATER_OR_EQUAL h0 n0 Z0 S_EQUAL S_NOT_EQUAL S_LESS S_LESS_OR_EQUAL S_GREATER S_GREATER_OR_EQUAL) hZ (ow4 hw) (ow3 hw) (by decide) (by decide)) (g := (mkF m 79 #[.val (.int p0), .val (.int p1), .val (.int p2), .val (.int p3), .val (.int (0 : Int32)), .val (.int zm), .val (.int zy), .val (.int (0 : Int32)), .unset, .unset] [(.int (0 : Int32))])) rfl (by rw [hml]; rfl) (argsL := [(.int (0 : Int32))]) (rest := []) (lenOf pd2 rfl) rfl (by show 2 * 0 + _ ≤ _; exact Nat.le_of_eq rfl) (hb hby at_79) (fun _ _ => ⟨rfl, e0, (by decide : 0 + 0 ≤ _), (by decide : 0 + 0 ≤ _)⟩)
          dsimp only [Pt.U, Pt.locs, Pt.cells, Pt.slots] at X22 l22 y22 z22 st22 hQ22
          subst l22 y22 z22
          obtain ⟨rfl, N22q, hh22⟩ := hQ22
          have N22 := Fr.app N0 N22q
          refine own_go (T' := T22) (f' := (mkF m 90 #[.val (.int p0), .val (.int p1), .val (.int p2), .val (.int p3), .val (.int (0 : Int32)), .val (.int zm), .val (.int zy), .val (.int (0 : Int32)), .val (.ref wEQUAL), .unset] [(.int zy), (.double (FP.i2d p1)), (.ref wEQUAL)])) (fun _ k => st22 _ (XS.astore X22.here hx rfl (hb hby at_82) rfl rfl (l' := #[.val (.int p0), .val (.int p1), .val (.int p2), .val (.int p3), .val (.int (0 : Int32)), .val (.int zm), .val (.int zy), .val (.int (0 : Int32)), .val (.ref wEQUAL), .unset]) rfl (XS.aload X22.here hx rfl (hb hby at_84) rfl rfl (XS.iloadN X22.here hx rfl (hb hby at_86) rfl (own_i2d X22.here hx rfl (hb hby at_87) rfl (XS.iload X22.here hx rfl (hb hby at_88) rfl k)))))) ?_
          refine own_go (T' := T22) (f' := (mkF m 91 #[.val (.int p0), .val (.int p1), .val (.int p2), .val (.int p3), .val (.int (0 : Int32)), .val (.int zm), .val (.int zy), .val (.int (0 : Int32)), .val (.ref wEQUAL), .unset] [(.double (FP.i2d zy)), (.double (FP.i2d p1)), (.ref wEQUAL)])) (fun _ k => own_i2d X22.here hx rfl (hb hby at_90) rfl k) ?_
          obtain ⟨cq23, kq23, q23a, q23b, q23c⟩ := isOf hZ hh22 E_EQUAL
          obtain ⟨_, _, ⟨T23, L23, k23, n23⟩, -, X23, ⟨Lc23, hQ23, l23, y23, z23⟩, st23⟩ := X22.virtualBack hx (y := mn2) (z := mn2) hown (mvT hZ (ow8 hw)) (mvT hZ (ow9 hw)) (notFace_of_selects (args := #[]) (mvT hZ (ow11 hw))) (mvT hZ (ow11 hw)) (mvT hZ (ow10 hw)) (by decide) (backOf (W := 0) (rm2_0eq l Z a0 hw [] wEQUAL (FP.i2d p1) (FP.i2d zy) h0 n0 Z0 O_EQUAL E_EQUAL hdc) hZ (ow12 hw) (ow6 hw) (by decide) (by decide)) q23a q23c (g := (mkF m 91 #[.val (.int p0), .val (.int p1), .val (.int p2), .val (.int p3), .val (.int (0 : Int32)), .val (.int zm), .val (.int zy), .val (.int (0 : Int32)), .val (.ref wEQUAL), .unset] [(.double (FP.i2d zy)), (.double (FP.i2d p1)), (.ref wEQUAL)])) rfl (by rw [hml]; rfl) (Steps.refl _) (argsL := [(.double (FP.i2d p1)), (.double (FP.i2d zy))]) (rest := []) (lenOf pd1 rfl) rfl (by show 2 * 0 + _ ≤ _; exact Nat.le_of_eq rfl) (hb hby at_91) (fun _ _ => ⟨rfl, hh22, (by decide : 0 + 0 ≤ _), (by decide : 0 + 0 ≤ _)⟩)
          dsimp only [Pt.U, Pt.locs, Pt.cells, Pt.slots] at X23 l23 y23 z23 st23 hQ23
          subst l23 y23 z23
          obtain ⟨rfl, N23q, hh23⟩ := hQ23
          have N23 := Fr.app N22 N23q
          refine own_go (T' := T23) (f' := (mkF m 102 #[.val (.int p0), .val (.int p1), .val (.int p2), .val (.int p3), .val (.int (0 : Int32)), .val (.int zm), .val (.int zy), .val (.int (0 : Int32)), .val (.ref wEQUAL), .val (.int (1 : Int32))] [(.int (0 : Int32)), (.int (0 : Int32)), (.int (1 : Int32))])) (fun _ k => st23.trans (XS.istore X23.here hx rfl (hb hby at_94) rfl (l' := #[.val (.int p0), .val (.int p1), .val (.int p2), .val (.int p3), .val (.int (0 : Int32)), .val (.int zm), .val (.int zy), .val (.int (0 : Int32)), .val (.ref wEQUAL), .val (.int (1 : Int32))]) rfl (XS.iload X23.here hx rfl (hb hby at_96) rfl (XS.iload X23.here hx rfl (hb hby at_98) rfl (XS.iload X23.here hx rfl (hb hby at_100) rfl k))))) ?_
          obtain ⟨_, _, ⟨T24, L24, k24, n24⟩, -, X24, ⟨Lc24, hQ24, l24, y24, z24⟩, st24⟩ := Jvm.LawKit.callS X23 hx (y := mn4) hown (mvT hZ (ow22 hw)) (mvT hZ (ow23 hw)) (mvT hZ (ow3 hw)) (mvT hZ (ow24 hw)) (by decide) (backOf (W := 1) (rm4_0eq l Z a0 hw [] h0 n0 Z0) hZ (ow24 hw) (ow3 hw) (by decide) (by decide)) (g := (mkF m 102 #[.val (.int p0), .val (.int p1), .val (.int p2), .val (.int p3), .val (.int (0 : Int32)), .val (.int zm), .val (.int zy), .val (.int (0 : Int32)), .val (.ref wEQUAL), .val (.int (1 : Int32))] [(.int (0 : Int32)), (.int (0 : Int32)), (.int (1 : Int32))])) rfl (by rw [hml]; rfl) (argsL := [(.int (0 : Int32)), (.int (0 : Int32))]) (rest := [(.int (1 : Int32))]) (lenOf pd3 rfl) rfl (by show 2 * 0 + _ ≤ _; exact Nat.le_of_eq rfl) (hb hby at_102) (fun _ _ => ⟨rfl, hh23, (by decide : 0 + 0 ≤ _), (by decide : 0 + 0 ≤ _)⟩)
          dsimp only [Pt.U, Pt.locs, Pt.cells, Pt.slots] at X24 l24 y24 z24 st24 hQ24
          subst l24 y24 z24
          obtain ⟨rfl, N24q, hh24⟩ := hQ24
          have N24 := Fr.app N23 N24q
          refine own_go (T' := T24) (f' := (mkF m 113 #[.val (.int p0), .val (.int p1), .val (.int p2), .val (.int p3), .val (.int (0 : Int32)), .val (.int zm), .val (.int zy), .val (.int (0 : Int32)), .val (.ref wEQUAL), .val (.int (1 : Int32))] [(.int (1 : Int32))])) (fun _ k => st24 _ (XS.icmpNo X24.here hx rfl (hb hby at_105) rfl (teq (by decide : ((1 : Int32) = (1 : Int32)))).2 (XS.iconst X24.here hx rfl (hb hby at_108) (XS.goto X24.here hx rfl (pc0 := 109) (pc' := 113) rfl (hb hby at_109) (by decide) (by decide) k)))) ?_
          refine own_ret X24 (v := some (.int (1 : Int32))) (fun h => by rw [Bd.returns] at h; cases h) Bd.notSynchronized (fun fs hr => retN X24 hx (t := .boolean) Bd.returns (by simp) (hb hby at_113) hr) ?_ (by decide) (by decide)
          show Q0 Z p0 p1 p2 p3 wEQUAL wNOT_EQUAL wLESS wLESS_OR_EQUAL wGREATER wGREATER_OR_EQUAL h0 n0 _ T24.heap _
          exact ⟨rfl, N24⟩
        · refine own_go (T' := s₁) (f' := (mkF m 79 #[.val (.int p0), .val (.int p1), .val (.int p2), .val (.int p3), .val (.int (1 : Int32)), .val (.int zm), .val (.int zy), .val (.int (0 : Int32)), .unset, .unset] [(.int (1 : Int32))])) (fun _ k => XS.iload X0.here hx rfl (hb hby at_77) rfl k) ?_
          obtain ⟨_, _, ⟨T25, L25, k25, n25⟩, -, X25, ⟨Lc25, hQ25, l25, y25, z25⟩, st25⟩ := Jvm.LawKit.callS X0 hx (y := mn3) hown (mvT hZ (ow1 hw)) (mvT hZ (ow2 hw)) (mvT hZ (ow3 hw)) (mvT hZ (ow4 hw)) (by decide) (backOf (W := 0) (rm1_1 l Z a0 hw [] wEQUAL wNOT_EQUAL wLESS wLESS_OR_EQUAL wGREATER wGREATER_OR_EQUAL h0 n0 Z0 S_EQUAL S_NOT_EQUAL S_LESS S_LESS_OR_EQUAL S_GREATER S_GREATER_OR_EQUAL) hZ (ow4 hw) (ow3 hw) (by decide) (by decide)) (g := (mkF m 79 #[.val (.int p0), .val (.int p1), .val (.int p2), .val (.int p3), .val (.int (1 : Int32)), .val (.int zm), .val (.int zy), .val (.int (0 : Int32)), .unset, .unset] [(.int (1 : Int32))])) rfl (by rw [hml]; rfl) (argsL := [(.int (1 : Int32))]) (rest := []) (lenOf pd2 rfl) rfl (by show 2 * 0 + _ ≤ _; exact Nat.le_of_eq rfl) (hb hby at_79) (fun _ _ => ⟨rfl, e0, (by decide : 0 + 0 ≤ _), (by decide : 0 + 0 ≤ _)⟩)
          dsimp only [Pt.U, Pt.locs, Pt.cells, Pt.slots] at X25 l25 y25 z25 st25 hQ25
          subst l25 y25 z25
          obtain ⟨rfl, N25q, hh25⟩ := hQ25
          have N25 := Fr.app N0 N25q
          refine own_go (T' := T25) (f' := (mkF m 90 #[.val (.int p0), .val (.int p1), .val (.int p2), .val (.int p3), .val (.int (1 : Int32)), .val (.int zm), .val (.int zy), .val (.int (0 : Int32)), .val (.ref wNOT_EQUAL), .unset] [(.int zy), (.double (FP.i2d p1)), (.ref wNOT_EQUAL)])) (fun _ k => st25 _ (XS.astore X25.here hx rfl (hb hby at_82) rfl rfl (l' := #[.val (.int p0), .val (.int p1), .val (.int p2), .val (.int p3), .val (.int (1 : Int32)), .val (.int zm), .val (.int zy), .val (.int (0 : Int32)), .val (.ref wNOT_EQUAL), .unset]) rfl (XS.aload X25.here hx rfl (hb hby at_84) rfl rfl (XS.iloadN X25.here hx rfl (hb hby at_86) rfl (own_i2d X25.here hx rfl (hb hby at_87) rfl (XS.iload X25.here hx rfl (hb hby at_88) rfl k)))))) ?_
          refine own_go (T' := T25) (f' := (mkF m 91 #[.val (.int p0), .val (.int p1), .val (.int p2), .val (.int p3), .val (.int (1 : Int32)), .val (.int zm), .val (.int zy), .val (.int (0 : Int32)), .val (.ref wNOT_EQUAL), .unset] [(.double (FP.i2d zy)), (.double (FP.i2d p1)), (.ref wNOT_EQUAL)])) (fun _ k => own_i2d X25.here hx rfl (hb hby at_90) rfl k) ?_
          obtain ⟨cq26, kq26, q26a, q26b, q26c⟩ := isOf hZ hh25 E_NOT_EQUAL
          obtain ⟨_, _, ⟨T26, L26, k26, n26⟩, -, X26, ⟨Lc26, hQ26, l26, y26, z26⟩, st26⟩ := X25.virtualBack hx (y := mn2) (z := mn2) hown (mvT hZ (ow8 hw)) (mvT hZ (ow9 hw)) (notFace_of_selects (args := #[]) (mvT hZ (ow11 hw))) (mvT hZ (ow11 hw)) (mvT hZ (ow10 hw)) (by decide) (backOf (W := 0) (rm2_1eq l Z a0 hw [] wNOT_EQUAL (FP.i2d p1) (FP.i2d zy) h0 n0 Z0 O_NOT_EQUAL E_NOT_EQUAL hdc) hZ (ow12 hw) (ow6 hw) (by decide) (by decide)) q26a q26c (g := (mkF m 91 #[.val (.int p0), .val (.int p1), .val (.int p2), .val (.int p3), .val (.int (1 : Int32)), .val (.int zm), .val (.int zy), .val (.int (0 : Int32)), .val (.ref wNOT_EQUAL), .unset] [(.double (FP.i2d zy)), (.double (FP.i2d p1)), (.ref wNOT_EQUAL)])) rfl (by rw [hml]; rfl) (Steps.refl _) (argsL := [(.double (FP.i2d p1)), (.double (FP.i2d zy))]) (rest := []) (lenOf pd1 rfl) rfl (by show 2 * 0 + _ ≤ _; exact Nat.le_of_eq rfl) (hb hby at_91) (fun _ _ => ⟨rfl, hh25, (by decide : 0 + 0 ≤ _), (by decide : 0 + 0 ≤ _)⟩)
          dsimp only [Pt.U, Pt.locs, Pt.cells, Pt.slots] at X26 l26 y26 z26 st26 hQ26
          subst l26 y26 z26
          obtain ⟨rfl, N26q, hh26⟩ := hQ26
          have N26 := Fr.app N25 N26q
          refine own_go (T' := T26) (f' := (mkF m 102 #[.val (.int p0), .val (.int p1), .val (.int p2), .val (.int p3), .val (.int (1 : Int32)), .val (.int zm), .val (.int zy), .val (.int (0 : Int32)), .val (.ref wNOT_EQUAL), .val (.int (0 : Int32))] [(.int (0 : Int32)), (.int (1 : Int32)), (.int (0 : Int32))])) (fun _ k => st26.trans (XS.istore X26.here hx rfl (hb hby at_94) rfl (l' := #[.val (.int p0), .val (.int p1), .val (.int p2), .val (.int p3), .val (.int (1 : Int32)), .val (.int zm), .val (.int zy), .val (.int (0 : Int32)), .val (.ref wNOT_EQUAL), .val (.int (0 : Int32))]) rfl (XS.iload X26.here hx rfl (hb hby at_96) rfl (XS.iload X26.here hx rfl (hb hby at_98) rfl (XS.iload X26.here hx rfl (hb hby at_100) rfl k))))) ?_
          obtain ⟨_, _, ⟨T27, L27, k27, n27⟩, -, X27, ⟨Lc27, hQ27, l27, y27, z27⟩, st27⟩ := Jvm.LawKit.callS X26 hx (y := mn4) hown (mvT hZ (ow22 hw)) (mvT hZ (ow23 hw)) (mvT hZ (ow3 hw)) (mvT hZ (ow24 hw)) (by decide) (backOf (W := 1) (rm4_1eq l Z a0 hw [] h0 n0 Z0) hZ (ow24 hw) (ow3 hw) (by decide) (by decide)) (g := (mkF m 102 #[.val (.int p0), .val (.int p1), .val (.int p2), .val (.int p3), .val (.int (1 : Int32)), .val (.int zm), .val (.int zy), .val (.int (0 : Int32)), .val (.ref wNOT_EQUAL), .val (.int (0 : Int32))] [(.int (0 : Int32)), (.int (1 : Int32)), (.int (0 : Int32))])) rfl (by rw [hml]; rfl) (argsL := [(.int (1 : Int32)), (.int (0 : Int32))]) (rest := [(.int (0 : Int32))]) (lenOf pd3 rfl) rfl (by show 2 * 0 + _ ≤ _; exact Nat.le_of_eq rfl) (hb hby at_102) (fun _ _ => ⟨rfl, hh26, (by decide : 0 + 0 ≤ _), (by decide : 0 + 0 ≤ _)⟩)
          dsimp only [Pt.U, Pt.locs, Pt.cells, Pt.slots] at X27 l27 y27 z27 st27 hQ27
          subst l27 y27 z27
          obtain ⟨rfl, N27q, hh27⟩ := hQ27
          have N27 := Fr.app N26 N27q
          refine own_go (T' := T27) (f' := (mkF m 113 #[.val (.int p0), .val (.int p1), .val (.int p2), .val (.int p3), .val (.int (1 : Int32)), .val (.int zm), .val (.int zy), .val (.int (0 : Int32)), .val (.ref wNOT_EQUAL), .val (.int (0 : Int32))] [(.int (1 : Int32))])) (fun _ k => st27 _ (XS.icmpNo X27.here hx rfl (hb hby at_105) rfl (teq (by decide : ((0 : Int32) = (0 : Int32)))).2 (XS.iconst X27.here hx rfl (hb hby at_108) (XS.goto X27.here hx rfl (pc0 := 109) (pc' := 113) rfl (hb hby at_109) (by decide) (by decide) k)))) ?_
          refine own_ret X27 (v := some (.int (1 : Int32))) (fun h => by rw [Bd.returns] at h; cases h) Bd.notSynchronized (fun fs hr => retN X27 hx (t := .boolean) Bd.returns (by simp) (hb hby at_113) hr) ?_ (by decide) (by decide)
          show Q0 Z p0 p1 p2 p3 wEQUAL wNOT_EQUAL wLESS wLESS_OR_EQUAL wGREATER wGREATER_OR_EQUAL h0 n0 _ T27.heap _
          exact ⟨rfl, N27⟩
        · refine own_go (T' := s₁) (f' := (mkF m 79 #[.val (.int p0), .val (.int p1), .val (.int p2), .val (.int p3), .val (.int (2 : Int32)), .val (.int zm), .val (.int zy), .val (.int (0 : Int32)), .unset, .unset] [(.int (2 : Int32))])) (fun _ k => XS.iload X0.here hx rfl (hb hby at_77) rfl k) ?_
          obtain ⟨_, _, ⟨T28, L28, k28, n28⟩, -, X28, ⟨Lc28, hQ28, l28, y28, z28⟩, st28⟩ := Jvm.LawKit.callS X0 hx (y := mn3) hown (mvT hZ (ow1 hw)) (mvT hZ (ow2 hw)) (mvT hZ (ow3 hw)) (mvT hZ (ow4 hw)) (by decide) (backOf (W := 0) (rm1_2 l Z a0 hw [] wEQUAL wNOT_EQUAL wLESS wLESS_OR_EQUAL wGREATER wGREATER_OR_EQUAL h0 n0 Z0 S_EQUAL S_NOT_EQUAL S_LESS S_LESS_OR_EQUAL S_GREATER S_GREATER_OR_EQUAL) hZ (ow4 hw) (ow3 hw) (by decide) (by decide)) (g := (mkF m 79 #[.val (.int p0), .val (.int p1), .val (.int p2), .val (.int p3), .val (.int (2 : Int32)), .val (.int zm), .val (.int zy), .val (.int (0 : Int32)), .unset, .unset] [(.int (2 : Int32))])) rfl (by rw [hml]; rfl) (argsL := [(.int (2 : Int32))]) (rest := []) (lenOf pd2 rfl) rfl (by show 2 * 0 + _ ≤ _; exact Nat.le_of_eq rfl) (hb hby at_79) (fun _ _ => ⟨rfl, e0, (by decide : 0 + 0 ≤ _), (by decide : 0 + 0 ≤ _)⟩)
          dsimp only [Pt.U, Pt.locs, Pt.cells, Pt.slots] at X28 l28 y28 z28 st28 hQ28
          subst l28 y28 z28
          obtain ⟨rfl, N28q, hh28⟩ := hQ28
          have N28 := Fr.app N0 N28q
          refine own_go (T' := T28) (f' := (mkF m 90 #[.val (.int p0), .val (.int p1), .val (.int p2), .val (.int p3), .val (.int (2 : Int32)), .val (.int zm), .val (.int zy), .val (.int (0 : Int32)), .val (.ref wLESS), .unset] [(.int zy), (.double (FP.i2d p1)), (.ref wLESS)])) (fun _ k => st28 _ (XS.astore X28.here hx rfl (hb hby at_82) rfl rfl (l' := #[.val (.int p0), .val (.int p1), .val (.int p2), .val (.int p3), .val (.int (2 : Int32)), .val (.int zm), .val (.int zy), .val (.int (0 : Int32)), .val (.ref wLESS), .unset]) rfl (XS.aload X28.here hx rfl (hb hby at_84) rfl rfl (XS.iloadN X28.here hx rfl (hb hby at_86) rfl (own_i2d X28.here hx rfl (hb hby at_87) rfl (XS.iload X28.here hx rfl (hb hby at_88) rfl k)))))) ?_
          refine own_go (T' := T28) (f' := (mkF m 91 #[.val (.int p0), .val (.int p1), .val (.int p2), .val (.int p3), .val (.int (2 : Int32)), .val (.int zm), .val (.int zy), .val (.int (0 : Int32)), .val (.ref wLESS), .unset] [(.double (FP.i2d zy)), (.double (FP.i2d p1)), (.ref wLESS)])) (fun _ k => own_i2d X28.here hx rfl (hb hby at_90) rfl k) ?_
          obtain ⟨cq29, kq29, q29a, q29b, q29c⟩ := isOf hZ hh28 E_LESS
          obtain ⟨_, _, ⟨T29, L29, k29, n29⟩, -, X29, ⟨Lc29, hQ29, l29, y29, z29⟩, st29⟩ := X28.virtualBack hx (y := mn2) (z := mn2) hown (mvT hZ (ow8 hw)) (mvT hZ (ow9 hw)) (notFace_of_selects (args := #[]) (mvT hZ (ow11 hw))) (mvT hZ (ow11 hw)) (mvT hZ (ow10 hw)) (by decide) (backOf (W := 0) (rm2_2eq l Z a0 hw [] wLESS (FP.i2d p1) (FP.i2d zy) h0 n0 Z0 O_LESS E_LESS hdc) hZ (ow12 hw) (ow6 hw) (by decide) (by decide)) q29a q29c (g := (mkF m 91 #[.val (.int p0), .val (.int p1), .val (.int p2), .val (.int p3), .val (.int (2 : Int32)), .val (.int zm), .val (.int zy), .val (.int (0 : Int32)), .val (.ref wLESS), .unset] [(.double (FP.i2d zy)), (.double (FP.i2d p1)), (.ref wLESS)])) rfl (by rw [hml]; rfl) (Steps.refl _) (argsL := [(.double (FP.i2d p1)), (.double (FP.i2d zy))]) (rest := []) (lenOf pd1 rfl) rfl (by show 2 * 0 + _ ≤ _; exact Nat.le_of_eq rfl) (hb hby at_91) (fun _ _ => ⟨rfl, hh28, (by decide : 0 + 0 ≤ _), (by decide : 0 + 0 ≤ _)⟩)
          dsimp only [Pt.U, Pt.locs, Pt.cells, Pt.slots] at X29 l29 y29 z29 st29 hQ29
          subst l29 y29 z29
          obtain ⟨rfl, N29q, hh29⟩ := hQ29
          have N29 := Fr.app N28 N29q
          refine own_go (T' := T29) (f' := (mkF m 102 #[.val (.int p0), .val (.int p1), .val (.int p2), .val (.int p3), .val (.int (2 : Int32)), .val (.int zm), .val (.int zy), .val (.int (0 : Int32)), .val (.ref wLESS), .val (.int (0 : Int32))] [(.int (0 : Int32)), (.int (2 : Int32)), (.int (0 : Int32))])) (fun _ k => st29.trans (XS.istore X29.here hx rfl (hb hby at_94) rfl (l' := #[.val (.int p0), .val (.int p1), .val (.int p2), .val (.int p3), .val (.int (2 : Int32)), .val (.int zm), .val (.int zy), .val (.int (0 : Int32)), .val (.ref wLESS), .val (.int (0 : Int32))]) rfl (XS.iload X29.here hx rfl (hb hby at_96) rfl (XS.iload X29.here hx rfl (hb hby at_98) rfl (XS.iload X29.here hx rfl (hb hby at_100) rfl k))))) ?_
          obtain ⟨_, _, ⟨T30, L30, k30, n30⟩, -, X30, ⟨Lc30, hQ30, l30, y30, z30⟩, st30⟩ := Jvm.LawKit.callS X29 hx (y := mn4) hown (mvT hZ (ow22 hw)) (mvT hZ (ow23 hw)) (mvT hZ (ow3 hw)) (mvT hZ (ow24 hw)) (by decide) (backOf (W := 1) (rm4_2eq l Z a0 hw [] h0 n0 Z0) hZ (ow24 hw) (ow3 hw) (by decide) (by decide)) (g := (mkF m 102 #[.val (.int p0), .val (.int p1), .val (.int p2), .val (.int p3), .val (.int (2 : Int32)), .val (.int zm), .val (.int zy), .val (.int (0 : Int32)), .val (.ref wLESS), .val (.int (0 : Int32))] [(.int (0 : Int32)), (.int (2 : Int32)), (.int (0 : Int32))])) rfl (by rw [hml]; rfl) (argsL := [(.int (2 : Int32)), (.int (0 : Int32))]) (rest := [(.int (0 : Int32))]) (lenOf pd3 rfl) rfl (by show 2 * 0 + _ ≤ _; exact Nat.le_of_eq rfl) (hb hby at_102) (fun _ _ => ⟨rfl, hh29, (by decide : 0 + 0 ≤ _), (by decide : 0 + 0 ≤ _)⟩)
          dsimp only [Pt.U, Pt.locs, Pt.cells, Pt.slots] at X30 l30 y30 z30 st30 hQ30
          subst l30 y30 z30
          obtain ⟨rfl, N30q, hh30⟩ := hQ30
          have N30 := Fr.app N29 N30q
          refine own_go (T' := T30) (f' := (mkF m 113 #[.val (.int p0), .val (.int p1), .val (.int p2), .val (.int p3), .val (.int (2 : Int32)), .val (.int zm), .val (.int zy), .val (.int (0 : Int32)), .val (.ref wLESS), .val (.int (0 : Int32))] [(.int (1 : Int32))])) (fun _ k => st30 _ (XS.icmpNo X30.here hx rfl (hb hby at_105) rfl (teq (by decide : ((0 : Int32) = (0 : Int32)))).2 (XS.iconst X30.here hx rfl (hb hby at_108) (XS.goto X30.here hx rfl (pc0 := 109) (pc' := 113) rfl (hb hby at_109) (by decide) (by decide) k)))) ?_
          refine own_ret X30 (v := some (.int (1 : Int32))) (fun h => by rw [Bd.returns] at h; cases h) Bd.notSynchronized (fun fs hr => retN X30 hx (t := .boolean) Bd.returns (by simp) (hb hby at_113) hr) ?_ (by decide) (by decide)
          show Q0 Z p0 p1 p2 p3 wEQUAL wNOT_EQUAL wLESS wLESS_OR_EQUAL wGREATER wGREATER_OR_EQUAL h0 n0 _ T30.heap _
          exact ⟨rfl, N30⟩
        · refine own_go (T' := s₁) (f' := (mkF m 79 #[.val (.int p0), .val (.int p1), .val (.int p2), .val (.int p3), .val (.int (3 : Int32)), .val (.int zm), .val (.int zy), .val (.int (0 : Int32)), .unset, .unset] [(.int (3 : Int32))])) (fun _ k => XS.iload X0.here hx rfl (hb hby at_77) rfl k) ?_
          obtain ⟨_, _, ⟨T31, L31, k31, n31⟩, -, X31, ⟨Lc31, hQ31, l31, y31, z31⟩, st31⟩ := Jvm.LawKit.callS X0 hx (y := mn3) hown (mvT hZ (ow1 hw)) (mvT hZ (ow2 hw)) (mvT hZ (ow3 hw)) (mvT hZ (ow4 hw)) (by decide) (backOf (W := 0) (rm1_3 l Z a0 hw [] wEQUAL wNOT_EQUAL wLESS wLESS_OR_EQUAL wGREATER wGREATER_OR_EQUAL h0 n0 Z0 S_EQUAL S_NOT_EQUAL S_LESS S_LESS_OR_EQUAL S_GREATER S_GREATER_OR_EQUAL) hZ (ow4 hw) (ow3 hw) (by decide) (by decide)) (g := (mkF m 79 #[.val (.int p0), .val (.int p1), .val (.int p2), .val (.int p3), .val (.int (3 : Int32)), .val (.int zm), .val (.int zy), .val (.int (0 : Int32)), .unset, .unset] [(.int (3 : Int32))])) rfl (by rw [hml]; rfl) (argsL := [(.int (3 : Int32))]) (rest := []) (lenOf pd2 rfl) rfl (by show 2 * 0 + _ ≤ _; exact Nat.le_of_eq rfl) (hb hby at_79) (fun _ _ => ⟨rfl, e0, (by decide : 0 + 0 ≤ _), (by decide : 0 + 0 ≤ _)⟩)
          dsimp only [Pt.U, Pt.locs, Pt.cells, Pt.slots] at X31 l31 y31 z31 st31 hQ31
          subst l31 y31 z31
          obtain ⟨rfl, N31q, hh31⟩ := hQ31
          have N31 := Fr.app N0 N31q
          refine own_go (T' := T31) (f' := (mkF m 90 #[.val (.int p0), .val (.int p1), .val (.int p2), .val (.int p3), .val (.int (3 : Int32)), .val (.int zm), .val (.int zy), .val (.int (0 : Int32)), .val (.ref wLESS_OR_EQUAL), .unset] [(.int zy), (.double (FP.i2d p1)), (.ref wLESS_OR_EQUAL)])) (fun _ k => st31 _ (XS.astore X31.here hx rfl (hb hby at_82) rfl rfl (l' := #[.val (.int p0), .val (.int p1), .val (.int p2), .val (.int p3), .val (.int (3 : Int32)), .val (.int zm), .val (.int zy), .val (.int (0 : Int32)), .val (.ref wLESS_OR_EQUAL), .unset]) rfl (XS.aload X31.here hx rfl (hb hby at_84) rfl rfl (XS.iloadN X31.here hx rfl (hb hby at_86) rfl (own_i2d X31.here hx rfl (hb hby at_87) rfl (XS.iload X31.here hx rfl (hb hby at_88) rfl k)))))) ?_
          refine own_go (T' := T31) (f' := (mkF m 91 #[.val (.int p0), .val (.int p1), .val (.int p2), .val (.int p3), .val (.int (3 : Int32)), .val (.int zm), .val (.int zy), .val (.int (0 : Int32)), .val (.ref wLESS_OR_EQUAL), .unset] [(.double (FP.i2d zy)), (.double (FP.i2d p1)), (.ref wLESS_OR_EQUAL)])) (fun _ k => own_i2d X31.here hx rfl (hb hby at_90) rfl k) ?_
          obtain ⟨cq32, kq32, q32a, q32b, q32c⟩ := isOf hZ hh31 E_LESS_OR_EQUAL
          obtain ⟨_, _, ⟨T32, L32, k32, n32⟩, -, X32, ⟨Lc32, hQ32, l32, y32, z32⟩, st32⟩ := X31.virtualBack hx (y := mn2) (z := mn2) hown (mvT hZ (ow8 hw)) (mvT hZ (ow9 hw)) (notFace_of_selects (args := #[]) (mvT hZ (ow11 hw))) (mvT hZ (ow11 hw)) (mvT hZ (ow10 hw)) (by decide) (backOf (W := 0) (rm2_3eq l Z a0 hw [] wLESS_OR_EQUAL (FP.i2d p1) (FP.i2d zy) h0 n0 Z0 O_LESS_OR_EQUAL E_LESS_OR_EQUAL hdc) hZ (ow12 hw) (ow6 hw) (by decide) (by decide)) q32a q32c (g := (mkF m 91 #[.val (.int p0), .val (.int p1), .val (.int p2), .val (.int p3), .val (.int (3 : Int32)), .val (.int zm), .val (.int zy), .val (.int (0 : Int32)), .val (.ref wLESS_OR_EQUAL), .unset] [(.double (FP.i2d zy)), (.double (FP.i2d p1)), (.ref wLESS_OR_EQUAL)])) rfl (by rw [hml]; rfl) (Steps.refl _) (argsL := [(.double (FP.i2d p1)), (.double (FP.i2d zy))]) (rest := []) (lenOf pd1 rfl) rfl (by show 2 * 0 + _ ≤ _; exact Nat.le_of_eq rfl) (hb hby at_91) (fun _ _ => ⟨rfl, hh31, (by decide : 0 + 0 ≤ _), (by decide : 0 + 0 ≤ _)⟩)
          dsimp only [Pt.U, Pt.locs, Pt.cells, Pt.slots] at X32 l32 y32 z32 st32 hQ32
          subst l32 y32 z32
          obtain ⟨rfl, N32q, hh32⟩ := hQ32
          have N32 := Fr.app N31 N32q
          refine own_go (T' := T32) (f' := (mkF m 102 #[.val (.int p0), .val (.int p1), .val (.int p2), .val (.int p3), .val (.int (3 : Int32)), .val (.int zm), .val (.int zy), .val (.int (0 : Int32)), .val (.ref wLESS_OR_EQUAL), .val (.int (1 : Int32))] [(.int (0 : Int32)), (.int (3 : Int32)), (.int (1 : Int32))])) (fun _ k => st32.trans (XS.istore X32.here hx rfl (hb hby at_94) rfl (l' := #[.val (.int p0), .val (.int p1), .val (.int p2), .val (.int p3), .val (.int (3 : Int32)), .val (.int zm), .val (.int zy), .val (.int (0 : Int32)), .val (.ref wLESS_OR_EQUAL), .val (.int (1 : Int32))]) rfl (XS.iload X32.here hx rfl (hb hby at_96) rfl (XS.iload X32.here hx rfl (hb hby at_98) rfl (XS.iload X32.here hx rfl (hb hby at_100) rfl k))))) ?_
          obtain ⟨_, _, ⟨T33, L33, k33, n33⟩, -, X33, ⟨Lc33, hQ33, l33, y33, z33⟩, st33⟩ := Jvm.LawKit.callS X32 hx (y := mn4) hown (mvT hZ (ow22 hw)) (mvT hZ (ow23 hw)) (mvT hZ (ow3 hw)) (mvT hZ (ow24 hw)) (by decide) (backOf (W := 1) (rm4_3eq l Z a0 hw [] h0 n0 Z0) hZ (ow24 hw) (ow3 hw) (by decide) (by decide)) (g := (mkF m 102 #[.val (.int p0), .val (.int p1), .val (.int p2), .val (.int p3), .val (.int (3 : Int32)), .val (.int zm), .val (.int zy), .val (.int (0 : Int32)), .val (.ref wLESS_OR_EQUAL), .val (.int (1 : Int32))] [(.int (0 : Int32)), (.int (3 : Int32)), (.int (1 : Int32))])) rfl (by rw [hml]; rfl) (argsL := [(.int (3 : Int32)), (.int (0 : Int32))]) (rest := [(.int (1 : Int32))]) (lenOf pd3 rfl) rfl (by show 2 * 0 + _ ≤ _; exact Nat.le_of_eq rfl) (hb hby at_102) (fun _ _ => ⟨rfl, hh32, (by decide : 0 + 0 ≤ _), (by decide : 0 + 0 ≤ _)⟩)
          dsimp only [Pt.U, Pt.locs, Pt.cells, Pt.slots] at X33 l33 y33 z33 st33 hQ33
          subst l33 y33 z33
          obtain ⟨rfl, N33q, hh33⟩ := hQ33
          have N33 := Fr.app N32 N33q
          refine own_go (T' := T33) (f' := (mkF m 113 #[.val (.int p0), .val (.int p1), .val (.int p2), .val (.int p3), .val (.int (3 : Int32)), .val (.int zm), .val (.int zy), .val (.int (0 : Int32)), .val (.ref wLESS_OR_EQUAL), .val (.int (1 : Int32))] [(.int (1 : Int32))])) (fun _ k => st33 _ (XS.icmpNo X33.here hx rfl (hb hby at_105) rfl (teq (by decide : ((1 : Int32) = (1 : Int32)))).2 (XS.iconst X33.here hx rfl (hb hby at_108) (XS.goto X33.here hx rfl (pc0 := 109) (pc' := 113) rfl (hb hby at_109) (by decide) (by decide) k)))) ?_
          refine own_ret X33 (v := some (.int (1 : Int32))) (fun h => by rw [Bd.returns] at h; cases h) Bd.notSynchronized (fun fs hr => retN X33 hx (t := .boolean) Bd.returns (by simp) (hb hby at_113) hr) ?_ (by decide) (by decide)
          show Q0 Z p0 p1 p2 p3 wEQUAL wNOT_EQUAL wLESS wLESS_OR_EQUAL wGREATER wGREATER_OR_EQUAL h0 n0 _ T33.heap _
          exact ⟨rfl, N33⟩
        · refine own_go (T' := s₁) (f' := (mkF m 79 #[.val (.int p0), .val (.int p1), .val (.int p2), .val (.int p3), .val (.int (4 : Int32)), .val (.int zm), .val (.int zy), .val (.int (0 : Int32)), .unset, .unset] [(.int (4 : Int32))])) (fun _ k => XS.iload X0.here hx rfl (hb hby at_77) rfl k) ?_
          obtain ⟨_, _, ⟨T34, L34, k34, n34⟩, -, X34, ⟨Lc34, hQ34, l34, y34, z34⟩, st34⟩ := Jvm.LawKit.callS X0 hx (y := mn3) hown (mvT hZ (ow1 hw)) (mvT hZ (ow2 hw)) (mvT hZ (ow3 hw)) (mvT hZ (ow4 hw)) (by decide) (backOf (W := 0) (rm1_4 l Z a0 hw [] wEQUAL wNOT_EQUAL wLESS wLESS_OR_EQUAL wGREATER wGREATER_OR_EQUAL h0 n0 Z0 S_EQUAL S_NOT_EQUAL S_LESS S_LESS_OR_EQUAL S_GREATER S_GREATER_OR_EQUAL) hZ (ow4 hw) (ow3 hw) (by decide) (by decide)) (g := (mkF m 79 #[.val (.int p0), .val (.int p1), .val (.int p2), .val (.int p3), .val (.int (4 : Int32)), .val (.int zm), .val (.int zy), .val (.int (0 : Int32)), .unset, .unset] [(.int (4 : Int32))])) rfl (by rw [hml]; rfl) (argsL := [(.int (4 : Int32))]) (rest := []) (lenOf pd2 rfl) rfl (by show 2 * 0 + _ ≤ _; exact Nat.le_of_eq rfl) (hb hby at_79) (fun _ _ => ⟨rfl, e0, (by decide : 0 + 0 ≤ _), (by decide : 0 + 0 ≤ _)⟩)
          dsimp only [Pt.U, Pt.locs, Pt.cells, Pt.slots] at X34 l34 y34 z34 st34 hQ34
          subst l34 y34 z34
          obtain ⟨rfl, N34q, hh34⟩ := hQ34
          have N34 := Fr.app N0 N34q
          refine own_go (T' := T34) (f' := (mkF m 90 #[.val (.int p0), .val (.int p1), .val (.int p2), .val (.int p3), .val (.int (4 : Int32)), .val (.int zm), .val (.int zy), .val (.int (0 : Int32)), .val (.ref wGREATER), .unset] [(.int zy), (.double (FP.i2d p1)), (.ref wGREATER)])) (fun _ k => st34 _ (XS.astore X34.here hx rfl (hb hby at_82) rfl rfl (l' := #[.val (.int p0), .val (.int p1), .val (.int p2), .val (.int p3), .val (.int (4 : Int32)), .val (.int zm), .val (.int zy), .val (.int (0 : Int32)), .val (.ref wGREATER), .unset]) rfl (XS.aload X34.here hx rfl (hb hby at_84) rfl rfl (XS.iloadN X34.here hx rfl (hb hby at_86) rfl (own_i2d X34.here hx rfl (hb hby at_87) rfl (XS.iload X34.here hx rfl (hb hby at_88) rfl k)))))) ?_
          refine own_go (T' := T34) (f' := (mkF m 91 #[.val (.int p0), .val (.int p1), .val (.int p2), .val (.int p3), .val (.int (4 : Int32)), .val (.int zm), .val (.int zy), .val (.int (0 : Int32)), .val (.ref wGREATER), .unset] [(.double (FP.i2d zy)), (.double (FP.i2d p1)), (.ref wGREATER)])) (fun _ k => own_i2d X34.here hx rfl (hb hby at_90) rfl k) ?_
          obtain ⟨cq35, kq35, q35a, q35b, q35c⟩ := isOf hZ hh34 E_GREATER
          obtain ⟨_, _, ⟨T35, L35, k35, n35⟩, -, X35, ⟨Lc35, hQ35, l35, y35, z35⟩, st35⟩ := X34.virtualBack hx (y := mn2) (z := mn2) hown (mvT hZ (ow8 hw)) (mvT hZ (ow9 hw)) (notFace_of_selects (args := #[]) (mvT hZ (ow11 hw))) (mvT hZ (ow11 hw)) (mvT hZ (ow10 hw)) (by decide) (backOf (W := 0) (rm2_4eq l Z a0 hw [] wGREATER (FP.i2d p1) (FP.i2d zy) h0 n0 Z0 O_GREATER E_GREATER hdc) hZ (ow12 hw) (ow6 hw) (by decide) (by decide)) q35a q35c (g := (mkF m 91 #[.val (.int p0), .val (.int p1), .val (.int p2), .val (.int p3), .val (.int (4 : Int32)), .val (.int zm), .val (.int zy), .val (.int (0 : Int32)), .val (.ref wGREATER), .unset] [(.double (FP.i2d zy)), (.double (FP.i2d p1)), (.ref wGREATER)])) rfl (by rw [hml]; rfl) (Steps.refl _) (argsL := [(.double (FP.i2d p1)), (.double (FP.i2d zy))]) (rest := []) (lenOf pd1 rfl) rfl (by show 2 * 0 + _ ≤ _; exact Nat.le_of_eq rfl) (hb hby at_91) (fun _ _ => ⟨rfl, hh34, (by decide : 0 + 0 ≤ _), (by decide : 0 + 0 ≤ _)⟩)
          dsimp only [Pt.U, Pt.locs, Pt.cells, Pt.slots] at X35 l35 y35 z35 st35 hQ35
          subst l35 y35 z35
          obtain ⟨rfl, N35q, hh35⟩ := hQ35
          have N35 := Fr.app N34 N35q
          refine own_go (T' := T35) (f' := (mkF m 102 #[.val (.int p0), .val (.int p1), .val (.int p2), .val (.int p3), .val (.int (4 : Int32)), .val (.int zm), .val (.int zy), .val (.int (0 : Int32)), .val (.ref wGREATER), .val (.int (0 : Int32))] [(.int (0 : Int32)), (.int (4 : Int32)), (.int (0 : Int32))])) (fun _ k => st35.trans (XS.istore X35.here hx rfl (hb hby at_94) rfl (l' := #[.val (.int p0), .val (.int p1), .val (.int p2), .val (.int p3), .val (.int (4 : Int32)), .val (.int zm), .val (.int zy), .val (.int (0 : Int32)), .val (.ref wGREATER), .val (.int (0 : Int32))]) rfl (XS.iload X35.here hx rfl (hb hby at_96) rfl (XS.iload X35.here hx rfl (hb hby at_98) rfl (XS.iload X35.here hx rfl (hb hby at_100) rfl k))))) ?_
          obtain ⟨_, _, ⟨T36, L36, k36, n36⟩, -, X36, ⟨Lc36, hQ36, l36, y36, z36⟩, st36⟩ := Jvm.LawKit.callS X35 hx (y := mn4) hown (mvT hZ (ow22 hw)) (mvT hZ (ow23 hw)) (mvT hZ (ow3 hw)) (mvT hZ (ow24 hw)) (by decide) (backOf (W := 1) (rm4_4eq l Z a0 hw [] h0 n0 Z0) hZ (ow24 hw) (ow3 hw) (by decide) (by decide)) (g := (mkF m 102 #[.val (.int p0), .val (.int p1), .val (.int p2), .val (.int p3), .val (.int (4 : Int32)), .val (.int zm), .val (.int zy), .val (.int (0 : Int32)), .val (.ref wGREATER), .val (.int (0 : Int32))] [(.int (0 : Int32)), (.int (4 : Int32)), (.int (0 : Int32))])) rfl (by rw [hml]; rfl) (argsL := [(.int (4 : Int32)), (.int (0 : Int32))]) (rest := [(.int (0 : Int32))]) (lenOf pd3 rfl) rfl (by show 2 * 0 + _ ≤ _; exact Nat.le_of_eq rfl) (hb hby at_102) (fun _ _ => ⟨rfl, hh35, (by decide : 0 + 0 ≤ _), (by decide : 0 + 0 ≤ _)⟩)
          dsimp only [Pt.U, Pt.locs, Pt.cells, Pt.slots] at X36 l36 y36 z36 st36 hQ36
          subst l36 y36 z36
          obtain ⟨rfl, N36q, hh36⟩ := hQ36
          have N36 := Fr.app N35 N36q
          refine own_go (T' := T36) (f' := (mkF m 113 #[.val (.int p0), .val (.int p1), .val (.int p2), .val (.int p3), .val (.int (4 : Int32)), .val (.int zm), .val (.int zy), .val (.int (0 : Int32)), .val (.ref wGREATER), .val (.int (0 : Int32))] [(.int (1 : Int32))])) (fun _ k => st36 _ (XS.icmpNo X36.here hx rfl (hb hby at_105) rfl (teq (by decide : ((0 : Int32) = (0 : Int32)))).2 (XS.iconst X36.here hx rfl (hb hby at_108) (XS.goto X36.here hx rfl (pc0 := 109) (pc' := 113) rfl (hb hby at_109) (by decide) (by decide) k)))) ?_
          refine own_ret X36 (v := some (.int (1 : Int32))) (fun h => by rw [Bd.returns] at h; cases h) Bd.notSynchronized (fun fs hr => retN X36 hx (t := .boolean) Bd.returns (by simp) (hb hby at_113) hr) ?_ (by decide) (by decide)
          show Q0 Z p0 p1 p2 p3 wEQUAL wNOT_EQUAL wLESS wLESS_OR_EQUAL wGREATER wGREATER_OR_EQUAL h0 n0 _ T36.heap _
          exact ⟨rfl, N36⟩
        · refine own_go (T' := s₁) (f' := (mkF m 79 #[.val (.int p0), .val (.int p1), .val (.int p2), .val (.int p3), .val (.int (5 : Int32)), .val (.int zm), .val (.int zy), .val (.int (0 : Int32)), .unset, .unset] [(.int (5 : Int32))])) (fun _ k => XS.iload X0.here hx rfl (hb hby at_77) rfl k) ?_
          obtain ⟨_, _, ⟨T37, L37, k37, n37⟩, -, X37, ⟨Lc37, hQ37, l37, y37, z37⟩, st37⟩ := Jvm.LawKit.callS X0 hx (y := mn3) hown (mvT hZ (ow1 hw)) (mvT hZ (ow2 hw)) (mvT hZ (ow3 hw)) (mvT hZ (ow4 hw)) (by decide) (backOf (W := 0) (rm1_5 l Z a0 hw [] wEQUAL wNOT_EQUAL wLESS wLESS_OR_EQUAL wGREATER wGREATER_OR_EQUAL h0 n0 Z0 S_EQUAL S_NOT_EQUAL S_LESS S_LESS_OR_EQUAL S_GREATER S_GREATER_OR_EQUAL) hZ (ow4 hw) (ow3 hw) (by decide) (by decide)) (g := (mkF m 79 #[.val (.int p0), .val (.int p1), .val (.int p2), .val (.int p3), .val (.int (5 : Int32)), .val (.int zm), .val (.int zy), .val (.int (0 : Int32)), .unset, .unset] [(.int (5 : Int32))])) rfl (by rw [hml]; rfl) (argsL := [(.int (5 : Int32))]) (rest := []) (lenOf pd2 rfl) rfl (by show 2 * 0 + _ ≤ _; exact Nat.le_of_eq rfl) (hb hby at_79) (fun _ _ => ⟨rfl, e0, (by decide : 0 + 0 ≤ _), (by decide : 0 + 0 ≤ _)⟩)
          dsimp only [Pt.U, Pt.locs, Pt.cells, Pt.slots] at X37 l37 y37 z37 st37 hQ37
          subst l37 y37 z37
          obtain ⟨rfl, N37q, hh37⟩ := hQ37
          have N37 := Fr.app N0 N37q
          refine own_go (T' := T37) (f' := (mkF m 90 #[.val (.int p0), .val (.int p1), .val (.int p2), .val (.int p3), .val (.int (5 : Int32)), .val (.int zm), .val (.int zy), .val (.int (0 : Int32)), .val (.ref wGREATER_OR_EQUAL), .unset] [(.int zy), (.double (FP.i2d p1)), (.ref wGREATER_OR_EQUAL)])) (fun _ k => st37 _ (XS.astore X37.here hx rfl (hb hby at_82) rfl rfl (l' := #[.val (.int p0), .val (.int p1), .val (.int p2), .val (.int p3), .val (.int (5 : Int32)), .val (.int zm), .val (.int zy), .val (.int (0 : Int32)), .val (.ref wGREATER_OR_EQUAL), .unset]) rfl (XS.aload X37.here hx rfl (hb hby at_84) rfl rfl (XS.iloadN X37.here hx rfl (hb hby at_86) rfl (own_i2d X37.here hx rfl (hb hby at_87) rfl (XS.iload X37.here hx rfl (hb hby at_88) rfl k)))))) ?_
          refine own_go (T' := T37) (f' := (mkF m 91 #[.val (.int p0), .val (.int p1), .val (.int p2), .val (.int p3), .val (.int (5 : Int32)), .val (.int zm), .val (.int zy), .val (.int (0 : Int32)), .val (.ref wGREATER_OR_EQUAL), .unset] [(.double (FP.i2d zy)), (.double (FP.i2d p1)), (.ref wGREATER_OR_EQUAL)])) (fun _ k => own_i2d X37.here hx rfl (hb hby at_90) rfl k) ?_
          obtain ⟨cq38, kq38, q38a, q38b, q38c⟩ := isOf hZ hh37 E_GREATER_OR_EQUAL
          obtain ⟨_, _, ⟨T38, L38, k38, n38⟩, -, X38, ⟨Lc38, hQ38, l38, y38, z38⟩, st38⟩ := X37.virtualBack hx (y := mn2) (z := mn2) hown (mvT hZ (ow8 hw)) (mvT hZ (ow9 hw)) (notFace_of_selects (args := #[]) (mvT hZ (ow11 hw))) (mvT hZ (ow11 hw)) (mvT hZ (ow10 hw)) (by decide) (backOf (W := 0) (rm2_5eq l Z a0 hw [] wGREATER_OR_EQUAL (FP.i2d p1) (FP.i2d zy) h0 n0 Z0 O_GREATER_OR_EQUAL E_GREATER_OR_EQUAL hdc) hZ (ow12 hw) (ow6 hw) (by decide) (by decide)) q38a q38c (g := (mkF m 91 #[.val (.int p0), .val (.int p1), .val (.int p2), .val (.int p3), .val (.int (5 : Int32)), .val (.int zm), .val (.int zy), .val (.int (0 : Int32)), .val (.ref wGREATER_OR_EQUAL), .unset] [(.double (FP.i2d zy)), (.double (FP.i2d p1)), (.ref wGREATER_OR_EQUAL)])) rfl (by rw [hml]; rfl) (Steps.refl _) (argsL := [(.double (FP.i2d p1)), (.double (FP.i2d zy))]) (rest := []) (lenOf pd1 rfl) rfl (by show 2 * 0 + _ ≤ _; exact Nat.le_of_eq rfl) (hb hby at_91) (fun _ _ => ⟨rfl, hh37, (by decide : 0 + 0 ≤ _), (by decide : 0 + 0 ≤ _)⟩)
          dsimp only [Pt.U, Pt.locs, Pt.cells, Pt.slots] at X38 l38 y38 z38 st38 hQ38
          subst l38 y38 z38
          obtain ⟨rfl, N38q, hh38⟩ := hQ38
          have N38 := Fr.app N37 N38q
          refine own_go (T' := T38) (f' := (mkF m 102 #[.val (.int p0), .val (.int p1), .val (.int p2), .val (.int p3), .val (.int (5 : Int32)), .val (.int zm), .val (.int zy), .val (.int (0 : Int32)), .val (.ref wGREATER_OR_EQUAL), .val (.int (1 : Int32))] [(.int (0 : Int32)), (.int (5 : Int32)), (.int (1 : Int32))])) (fun _ k => st38.trans (XS.istore X38.here hx rfl (hb hby at_94) rfl (l' := #[.val (.int p0), .val (.int p1), .val (.int p2), .val (.int p3), .val (.int (5 : Int32)), .val (.int zm), .val (.int zy), .val (.int (0 : Int32)), .val (.ref wGREATER_OR_EQUAL), .val (.int (1 : Int32))]) rfl (XS.iload X38.here hx rfl (hb hby at_96) rfl (XS.iload X38.here hx rfl (hb hby at_98) rfl (XS.iload X38.here hx rfl (hb hby at_100) rfl k))))) ?_
          obtain ⟨_, _, ⟨T39, L39, k39, n39⟩, -, X39, ⟨Lc39, hQ39, l39, y39, z39⟩, st39⟩ := Jvm.LawKit.callS X38 hx (y := mn4) hown (mvT hZ (ow22 hw)) (mvT hZ (ow23 hw)) (mvT hZ (ow3 hw)) (mvT hZ (ow24 hw)) (by decide) (backOf (W := 1) (rm4_5eq l Z a0 hw [] h0 n0 Z0) hZ (ow24 hw) (ow3 hw) (by decide) (by decide)) (g := (mkF m 102 #[.val (.int p0), .val (.int p1), .val (.int p2), .val (.int p3), .val (.int (5 : Int32)), .val (.int zm), .val (.int zy), .val (.int (0 : Int32)), .val (.ref wGREATER_OR_EQUAL), .val (.int (1 : Int32))] [(.int (0 : Int32)), (.int (5 : Int32)), (.int (1 : Int32))])) rfl (by rw [hml]; rfl) (argsL := [(.int (5 : Int32)), (.int (0 : Int32))]) (rest := [(.int (1 : Int32))]) (lenOf pd3 rfl) rfl (by show 2 * 0 + _ ≤ _; exact Nat.le_of_eq rfl) (hb hby at_102) (fun _ _ => ⟨rfl, hh38, (by decide : 0 + 0 ≤ _), (by decide : 0 + 0 ≤ _)⟩)
          dsimp only [Pt.U, Pt.locs, Pt.cells, Pt.slots] at X39 l39 y39 z39 st39 hQ39
          subst l39 y39 z39
          obtain ⟨rfl, N39q, hh39⟩ := hQ39
          have N39 := Fr.app N38 N39q
          refine own_go (T' := T39) (f' := (mkF m 113 #[.val (.int p0), .val (.int p1), .val (.int p2), .val (.int p3), .val (.int (5 : Int32)), .val (.int zm), .val (.int zy), .val (.int (0 : Int32)), .val (.ref wGREATER_OR_EQUAL), .val (.int (1 : Int32))] [(.int (1 : Int32))])) (fun _ k => st39 _ (XS.icmpNo X39.here hx rfl (hb hby at_105) rfl (teq (by decide : ((1 : Int32) = (1 : Int32)))).2 (XS.iconst X39.here hx rfl (hb hby at_108) (XS.goto X39.here hx rfl (pc0 := 109) (pc' := 113) rfl (hb hby at_109) (by decide) (by decide) k)))) ?_
          refine own_ret X39 (v := some (.int (1 : Int32))) (fun h => by rw [Bd.returns] at h; cases h) Bd.notSynchronized (fun fs hr => retN X39 hx (t := .boolean) Bd.returns (by simp) (hb hby at_113) hr) ?_ (by decide) (by decide)
          show Q0 Z p0 p1 p2 p3 wEQUAL wNOT_EQUAL wLESS wLESS_OR_EQUAL wGREATER wGREATER_OR_EQUAL h0 n0 _ T39.heap _
          exact ⟨rfl, N39⟩
      · refine own_go (T' := s₁) (f' := (mkF m 77 #[.val (.int p0), .val (.int p1), .val (.int p2), .val (.int p3), .val (.int zk), .val (.int zm), .val (.int zy), .val (.int (1 : Int32)), .unset, .unset] [])) (fun _ k => XS.icmpYes X0.here hx rfl (pc0 := 67) (pc' := 74) rfl (hb hby at_67) rfl (feq hc21).2 (by decide) (by decide) (XS.iconst X0.here hx rfl (hb hby at_74) (XS.istore X0.here hx rfl (hb hby at_75) rfl (l' := #[.val (.int p0), .val (.int p1), .val (.int p2), .val (.int p3), .val (.int zk), .val (.int zm), .val (.int zy), .val (.int (1 : Int32)), .unset, .unset]) rfl k))) ?_
        have hdc : FP.dcmp (FP.i2d p1) (FP.i2d zy) = some .gt := own_dgt hc2 hc21
        have hck := own_mod6 _ hzk
        rcases hck with rfl | rfl | rfl | rfl | rfl | rfl
        · refine own_go (T' := s₁) (f' := (mkF m 79 #[.val (.int p0), .val (.int p1), .val (.int p2), .val (.int p3), .val (.int (0 : Int32)), .val (.int zm), .val (.int zy), .val (.int (1 : Int32)), .unset, .unset] [(.int (0 : Int32))])) (fun _ k => XS.iload X0.here hx rfl (hb hby at_77) rfl k) ?_
          obtain ⟨_, _, ⟨T40, L40, k40, n40⟩, -, X40, ⟨Lc40, hQ40, l40, y40, z40⟩, st40⟩ := Jvm.LawKit.callS X0 hx (y := mn3) hown (mvT hZ (ow1 hw)) (mvT hZ (ow2 hw)) (mvT hZ (ow3 hw)) (mvT hZ (ow4 hw)) (by decide) (backOf (W := 0) (rm1_0 l Z a0 hw [] wEQUAL wNOT_EQUAL wLESS wLESS_OR_EQUAL wGREATER wGREATER_OR_EQUAL h0 n0 Z0 S_EQUAL S_NOT_EQUAL S_LESS S_LESS_OR_EQUAL S_GREATER S_GREATER_OR_EQUAL) hZ (ow4 hw) (ow3 hw) (by decide) (by decide)) (g := (mkF m 79 #[.val (.int p0), .val (.int p1), .val (.int p2), .val (.int p3), .val (.int (0 : Int32)), .val (.int zm), .val (.int zy), .val (.int (1 : Int32)), .unset, .unset] [(.int (0 : Int32))])) rfl (by rw [hml]; rfl) (argsL := [(.int (0 : Int32))]) (rest := []) (lenOf pd2 rfl) rfl (by show 2 * 0 + _ ≤ _; exact Nat.le_of_eq rfl) (hb hby at_79) (fun _ _ => ⟨rfl, e0, (by decide : 0 + 0 ≤ _), (by decide : 0 + 0 ≤ _)⟩)
          dsimp only [Pt.U, Pt.locs, Pt.cells, Pt.slots] at X40 l40 y40 z40 st40 hQ40
          subst l40 y40 z40
          obtain ⟨rfl, N40q, hh40⟩ := hQ40
          have N40 := Fr.app N0 N40q
          refine own_go (T' := T40) (f' := (mkF m 90 #[.val (.int p0), .val (.int p1), .val (.int p2), .val (.int p3), .val (.int (0 : Int32)), .val (.int zm), .val (.int zy), .val (.int (1 : Int32)), .val (.ref wEQUAL), .unset] [(.int zy), (.double (FP.i2d p1)), (.ref wEQUAL)])) (fun _ k => st40 _ (XS.astore X40.here hx rfl (hb hby at_82) rfl rfl (l' := #[.val (.int p0), .val (.int p1), .val (.int p2), .val (.int p3), .val (.int (0 : Int32)), .val (.int zm), .val (.int zy), .val (.int (1 : Int32)), .val (.ref wEQUAL), .unset]) rfl (XS.aload X40.here hx rfl (hb hby at_84) rfl rfl (XS.iloadN X40.here hx rfl (hb hby at_86) rfl (own_i2d X40.here hx rfl (hb hby at_87) rfl (XS.iload X40.here hx rfl (hb hby at_88) rfl k)))))) ?_
          refine own_go (T' := T40) (f' := (mkF m 91 #[.val (.int p0), .val (.int p1), .val (.int p2), .val (.int p3), .val (.int (0 : Int32)), .val (.int zm), .val (.int zy), .val (.int (1 : Int32)), .val (.ref wEQUAL), .unset] [(.double (FP.i2d zy)), (.double (FP.i2d p1)), (.ref wEQUAL)])) (fun _ k => own_i2d X40.here hx rfl (hb hby at_90) rfl k) ?_
          obtain ⟨cq41, kq41, q41a, q41b, q41c⟩ := isOf hZ hh40 E_EQUAL
          obtain ⟨_, _, ⟨T41, L41, k41, n41⟩, -, X41, ⟨Lc41, hQ41, l41, y41, z41⟩, st41⟩ := X40.virtualBack hx (y := mn2) (z := mn2) hown (mvT hZ (ow8 hw)) (mvT hZ (ow9 hw)) (notFace_of_selects (args := #[]) (mvT hZ (ow11 hw))) (mvT hZ (ow11 hw)) (mvT hZ (ow10 hw)) (by decide) (backOf (W := 0) (rm2_0gt l Z a0 hw [] wEQUAL (FP.i2d p1) (FP.i2d zy) h0 n0 Z0 O_EQUAL E_EQUAL hdc) hZ (ow12 hw) (ow6 hw) (by decide) (by decide)) q41a q41c (g := (mkF m 91 #[.val (.int p0), .val (.int p1), .val (.int p2), .val (.int p3), .val (.int (0 : Int32)), .val (.int zm), .val (.int zy), .val (.int (1 : Int32)), .val (.ref wEQUAL), .unset] [(.double (FP.i2d zy)), (.double (FP.i2d p1)), (.ref wEQUAL)])) rfl (by rw [hml]; rfl) (Steps.refl _) (argsL := [(.double (FP.i2d p1)), (.double (FP.i2d zy))]) (rest := []) (lenOf pd1 rfl) rfl (by show 2 * 0 + _ ≤ _; exact Nat.le_of_eq rfl) (hb hby at_91) (fun _ _ => ⟨rfl, hh40, (by decide : 0 + 0 ≤ _), (by decide : 0 + 0 ≤ _)⟩)
          dsimp only [Pt.U, Pt.locs, Pt.cells, Pt.slots] at X41 l41 y41 z41 st41 hQ41
          subst l41 y41 z41
          obtain ⟨rfl, N41q, hh41⟩ := hQ41
          have N41 := Fr.app N40 N41q
          refine own_go (T' := T41) (f' := (mkF m 102 #[.val (.int p0), .val (.int p1), .val (.int p2), .val (.int p3), .val (.int (0 : Int32)), .val (.int zm), .val (.int zy), .val (.int (1 : Int32)), .val (.ref wEQUAL), .val (.int (0 : Int32))] [(.int (1 : Int32)), (.int (0 : Int32)), (.int (0 : Int32))])) (fun _ k => st41.trans (XS.istore X41.here hx rfl (hb hby at_94) rfl (l' := #[.val (.int p0), .val (.int p1), .val (.int p2), .val (.int p3), .val (.int (0 : Int32)), .val (.int zm), .val (.int zy), .val (.int (1 : Int32)), .val (.ref wEQUAL), .val (.int (0 : Int32))]) rfl (XS.iload X41.here hx rfl (hb hby at_96) rfl (XS.iload X41.here hx rfl (hb hby at_98) rfl (XS.iload X41.here hx rfl (hb hby at_100) rfl k))))) ?_
          obtain ⟨_, _, ⟨T42, L42, k42, n42⟩, -, X42, ⟨Lc42, hQ42, l42, y42, z42⟩, st42⟩ := Jvm.LawKit.callS X41 hx (y := mn4) hown (mvT hZ (ow22 hw)) (mvT hZ (ow23 hw)) (mvT hZ (ow3 hw)) (mvT hZ (ow24 hw)) (by decide) (backOf (W := 1) (rm4_0gt l Z a0 hw [] h0 n0 Z0) hZ (ow24 hw) (ow3 hw) (by decide) (by decide)) (g := (mkF m 102 #[.val (.int p0), .val (.int p1), .val (.int p2), .val (.int p3), .val (.int (0 : Int32)), .val (.int zm), .val (.int zy), .val (.int (1 : Int32)), .val (.ref wEQUAL), .val (.int (0 : Int32))] [(.int (1 : Int32)), (.int (0 : Int32)), (.int (0 : Int32))])) rfl (by rw [hml]; rfl) (argsL := [(.int (0 : Int32)), (.int (1 : Int32))]) (rest := [(.int (0 : Int32))]) (lenOf pd3 rfl) rfl (by show 2 * 0 + _ ≤ _; exact Nat.le_of_eq rfl) (hb hby at_102) (fun _ _ => ⟨rfl, hh41, (by decide : 0 + 0 ≤ _), (by decide : 0 + 0 ≤ _)⟩)
          dsimp only [Pt.U, Pt.locs, Pt.cells, Pt.slots] at X42 l42 y42 z42 st42 hQ42
          subst l42 y42 z42
          obtain ⟨rfl, N42q, hh42⟩ := hQ42
          have N42 := Fr.app N41 N42q
          refine own_go (T' := T42) (f' := (mkF m 113 #[.val (.int p0), .val (.int p1), .val (.int p2), .val (.int p3), .val (.int (0 : Int32)), .val (.int zm), .val (.int zy), .val (.int (1 : Int32)), .val (.ref wEQUAL), .val (.int (0 : Int32))] [(.int (1 : Int32))])) (fun _ k => st42 _ (XS.icmpNo X42.here hx rfl (hb hby at_105) rfl (teq (by decide : ((0 : Int32) = (0 : Int32)))).2 (XS.iconst X42.here hx rfl (hb hby at_108) (XS.goto X42.here hx rfl (pc0 := 109) (pc' := 113) rfl (hb hby at_109) (by decide) (by decide) k)))) ?_
          refine own_ret X42 (v := some (.int (1 : Int32))) (fun h => by rw [Bd.returns] at h; cases h) Bd.notSynchronized (fun fs hr => retN X42 hx (t := .boolean) Bd.returns (by simp) (hb hby at_113) hr) ?_ (by decide) (by decide)
          show Q0 Z p0 p1 p2 p3 wEQUAL wNOT_EQUAL wLESS wLESS_OR_EQUAL wGREATER wGREATER_OR_EQUAL h0 n0 _ T42.heap _
          exact ⟨rfl, N42⟩
        · refine own_go (T' := s₁) (f' := (mkF m 79 #[.val (.int p0), .val (.int p1), .val (.int p2), .val (.int p3), .val (.int (1 : Int32)), .val (.int zm), .val (.int zy), .val (.int (1 : Int32)), .unset, .unset] [(.int (1 : Int32))])) (fun _ k => XS.iload X0.here hx rfl (hb hby at_77) rfl k) ?_
          obtain ⟨_, _, ⟨T43, L43, k43, n43⟩, -, X43, ⟨Lc43, hQ43, l43, y43, z43⟩, st43⟩ := Jvm.LawKit.callS X0 hx (y := mn3) hown (mvT hZ (ow1 hw)) (mvT hZ (ow2 hw)) (mvT hZ (ow3 hw)) (mvT hZ (ow4 hw)) (by decide) (backOf (W := 0) (rm1_1 l Z a0 hw [] wEQUAL wNOT_EQUAL wLESS wLESS_OR_EQUAL wGREATER wGREATER_OR_EQUAL h0 n0 Z0 S_EQUAL S_NOT_EQUAL S_LESS S_LESS_OR_EQUAL S_GREATER S_GREATER_OR_EQUAL) hZ (ow4 hw) (ow3 hw) (by decide) (by decide)) (g := (mkF m 79 #[.val (.int p0), .val (.int p1), .val (.int p2), .val (.int p3), .val (.int (1 : Int32)), .val (.int zm), .val (.int zy), .val (.int (1 : Int32)), .unset, .unset] [(.int (1 : Int32))])) rfl (by rw [hml]; rfl) (argsL := [(.int (1 : Int32))]) (rest := []) (lenOf pd2 rfl) rfl (by show 2 * 0 + _ ≤ _; exact Nat.le_of_eq rfl) (hb hby at_79) (fun _ _ => ⟨rfl, e0, (by decide : 0 + 0 ≤ _), (by decide : 0 + 0 ≤ _)⟩)
          dsimp only [Pt.U, Pt.locs, Pt.cells, Pt.slots] at X43 l43 y43 z43 st43 hQ43
          subst l43 y43 z43
          obtain ⟨rfl, N43q, hh43⟩ := hQ43
          have N43 := Fr.app N0 N43q
          refine own_go (T' := T43) (f' := (mkF m 90 #[.val (.int p0), .val (.int p1), .val (.int p2), .val (.int p3), .val (.int (1 : Int32)), .val (.int zm), .val (.int zy), .val (.int (1 : Int32)), .val (.ref wNOT_EQUAL), .unset] [(.int zy), (.double (FP.i2d p1)), (.ref wNOT_EQUAL)])) (fun _ k => st43 _ (XS.astore X43.here hx rfl (hb hby at_82) rfl rfl (l' := #[.val (.int p0), .val (.int p1), .val (.int p2), .val (.int p3), .val (.int (1 : Int32)), .val (.int zm), .val (.int zy), .val (.int (1 : Int32)), .val (.ref wNOT_EQUAL), .unset]) rfl (XS.aload X43.here hx rfl (hb hby at_84) rfl rfl (XS.iloadN X43.here hx rfl (hb hby at_86) rfl (own_i2d X43.here hx rfl (hb hby at_87) rfl (XS.iload X43.here hx rfl (hb hby at_88) rfl k)))))) ?_
          refine own_go (T' := T43) (f' := (mkF m 91 #[.val (.int p0), .val (.int p1), .val (.int p2), .val (.int p3), .val (.int (1 : Int32)), .val (.int zm), .val (.int zy), .val (.int (1 : Int32)), .val (.ref wNOT_EQUAL), .unset] [(.double (FP.i2d zy)), (.double (FP.i2d p1)), (.ref wNOT_EQUAL)])) (fun _ k => own_i2d X43.here hx rfl (hb hby at_90) rfl k) ?_
          obtain ⟨cq44, kq44, q44a, q44b, q44c⟩ := isOf hZ hh43 E_NOT_EQUAL
          obtain ⟨_, _, ⟨T44, L44, k44, n44⟩, -, X44, ⟨Lc44, hQ44, l44, y44, z44⟩, st44⟩ := X43.virtualBack hx (y := mn2) (z := mn2) hown (mvT hZ (ow8 hw)) (mvT hZ (ow9 hw)) (notFace_of_selects (args := #[]) (mvT hZ (ow11 hw))) (mvT hZ (ow11 hw)) (mvT hZ (ow10 hw)) (by decide) (backOf (W := 0) (rm2_1gt l Z a0 hw [] wNOT_EQUAL (FP.i2d p1) (FP.i2d zy) h0 n0 Z0 O_NOT_EQUAL E_NOT_EQUAL hdc) hZ (ow12 hw) (ow6 hw) (by decide) (by decide)) q44a q44c (g := (mkF m 91 #[.val (.int p0), .val (.int p1), .val (.int p2), .val (.int p3), .val (.int (1 : Int32)), .val (.int zm), .val (.int zy), .val (.int (1 : Int32)), .val (.ref wNOT_EQUAL), .unset] [(.double (FP.i2d zy)), (.double (FP.i2d p1)), (.ref wNOT_EQUAL)])) rfl (by rw [hml]; rfl) (Steps.refl _) (argsL := [(.double (FP.i2d p1)), (.double (FP.i2d zy))]) (rest := []) (lenOf pd1 rfl) rfl (by show 2 * 0 + _ ≤ _; exact Nat.le_of_eq rfl) (hb hby at_91) (fun _ _ => ⟨rfl, hh43, (by decide : 0 + 0 ≤ _), (by decide : 0 + 0 ≤ _)⟩)
          dsimp only [Pt.U, Pt.locs, Pt.cells, Pt.slots] at X44 l44 y44 z44 st44 hQ44
          subst l44 y44 z44
          obtain ⟨rfl, N44q, hh44⟩ := hQ44
          have N44 := Fr.app N43 N44q
          refine own_go (T' := T44) (f' := (mkF m 102 #[.val (.int p0), .val (.int p1), .val (.int p2), .val (.int p3), .val (.int (1 : Int32)), .val (.int zm), .val (.int zy), .val (.int (1 : Int32)), .val (.ref wNOT_EQUAL), .val (.int (1 : Int32))] [(.int (1 : Int32)), (.int (1 : Int32)), (.int (1 : Int32))])) (fun _ k => st44.trans (XS.istore X44.here hx rfl (hb hby at_94) rfl (l' := #[.val (.int p0), .val (.int p1), .val (.int p2), .val (.int p3), .val (.int (1 : Int32)), .val (.int zm), .val (.int zy), .val (.int (1 : Int32)), .val (.ref wNOT_EQUAL), .val (.int (1 : Int32))]) rfl (XS.iload X44.here hx rfl (hb hby at_96) rfl (XS.iload X44.here hx rfl (hb hby at_98) rfl (XS.iload X44.here hx rfl (hb hby at_100) rfl k))))) ?_
          obtain ⟨_, _, ⟨T45, L45, k45, n45⟩, -, X45, ⟨Lc45, hQ45, l45, y45, z45⟩, st45⟩ := Jvm.LawKit.callS X44 hx (y := mn4) hown (mvT hZ (ow22 hw)) (mvT hZ (ow23 hw)) (mvT hZ (ow3 hw)) (mvT hZ (ow24 hw)) (by decide) (backOf (W := 1) (rm4_1gt l Z a0 hw [] h0 n0 Z0) hZ (ow24 hw) (ow3 hw) (by decide) (by decide)) (g := (mkF m 102 #[.val (.int p0), .val (.int p1), .val (.int p2), .val (.int p3), .val (.int (1 : Int32)), .val (.int zm), .val (.int zy), .val (.int (1 : Int32)), .val (.ref wNOT_EQUAL), .val (.int (1 : Int32))] [(.int (1 : Int32)), (.int (1 : Int32)), (.int (1 : Int32))])) rfl (by rw [hml]; rfl) (argsL := [(.int (1 : Int32)), (.int (1 : Int32))]) (rest := [(.int (1 : Int32))]) (lenOf pd3 rfl) rfl (by show 2 * 0 + _ ≤ _; exact Nat.le_of_eq rfl) (hb hby at_102) (fun _ _ => ⟨rfl, hh44, (by decide : 0 + 0 ≤ _), (by decide : 0 + 0 ≤ _)⟩)
          dsimp only [Pt.U, Pt.locs, Pt.cells, Pt.slots] at X45 l45 y45 z45 st45 hQ45
          subst l45 y45 z45
          obtain ⟨rfl, N45q, hh45⟩ := hQ45
          have N45 := Fr.app N44 N45q
          refine own_go (T' := T45) (f' := (mkF m 113 #[.val (.int p0), .val (.int p1), .val (.int p2), .val (.int p3), .val (.int (1 : Int32)), .val (.int zm), .val (.int zy), .val (.int (1 : Int32)), .val (.ref wNOT_EQUAL), .val (.int (1 : Int32))] [(.int (1 : Int32))])) (fun _ k => st45 _ (XS.icmpNo X45.here hx rfl (hb hby at_105) rfl (teq (by decide : ((1 : Int32) = (1 : Int32)))).2 (XS.iconst X45.here hx rfl (hb hby at_108) (XS.goto X45.here hx rfl (pc0 := 109) (pc' := 113) rfl (hb hby at_109) (by decide) (by decide) k)))) ?_
          refine own_ret X45 (v := some (.int (1 : Int32))) (fun h => by rw [Bd.returns] at h; cases h) Bd.notSynchronized (fun fs hr => retN X45 hx (t := .boolean) Bd.returns (by simp) (hb hby at_113) hr) ?_ (by decide) (by decide)
          show Q0 Z p0 p1 p2 p3 wEQUAL wNOT_EQUAL wLESS wLESS_OR_EQUAL wGREATER wGREATER_OR_EQUAL h0 n0 _ T45.heap _
          exact ⟨rfl, N45⟩
        · refine own_go (T' := s₁) (f' := (mkF m 79 #[.val (.int p0), .val (.int p1), .val (.int p2), .val (.int p3), .val (.int (2 : Int32)), .val (.int zm), .val (.int zy), .val (.int (1 : Int32)), .unset, .unset] [(.int (2 : Int32))])) (fun _ k => XS.iload X0.here hx rfl (hb hby at_77) rfl k) ?_
          obtain ⟨_, _, ⟨T46, L46, k46, n46⟩, -, X46, ⟨Lc46, hQ46, l46, y46, z46⟩, st46⟩ := Jvm.LawKit.callS X0 hx (y := mn3) hown (mvT hZ (ow1 hw)) (mvT hZ (ow2 hw)) (mvT hZ (ow3 hw)) (mvT hZ (ow4 hw)) (by decide) (backOf (W := 0) (rm1_2 l Z a0 hw [] wEQUAL wNOT_EQUAL wLESS wLESS_OR_EQUAL wGREATER wGREATER_OR_EQUAL h0 n0 Z0 S_EQUAL S_NOT_EQUAL S_LESS S_LESS_OR_EQUAL S_GREATER S_GREATER_OR_EQUAL) hZ (ow4 hw) (ow3 hw) (by decide) (by decide)) (g := (mkF m 79 #[.val (.int p0), .val (.int p1), .val (.int p2), .val (.int p3), .val (.int (2 : Int32)), .val (.int zm), .val (.int zy), .val (.int (1 : Int32)), .unset, .unset] [(.int (2 : Int32))])) rfl (by rw [hml]; rfl) (argsL := [(.int (2 : Int32))]) (rest := []) (lenOf pd2 rfl) rfl (by show 2 * 0 + _ ≤ _; exact Nat.le_of_eq rfl) (hb hby at_79) (fun _ _ => ⟨rfl, e0, (by decide : 0 + 0 ≤ _), (by decide : 0 + 0 ≤ _)⟩)
          dsimp only [Pt.U, Pt.locs, Pt.cells, Pt.slots] at X46 l46 y46 z46 st46 hQ46
          subst l46 y46 z46
          obtain ⟨rfl, N46q, hh46⟩ := hQ46
          have N46 := Fr.app N0 N46q
          refine own_go (T' := T46) (f' := (mkF m 90 #[.val (.int p0), .val (.int p1), .val (.int p2), .val (.int p3), .val (.int (2 : Int32)), .val (.int zm), .val (.int zy), .val (.int (1 : Int32)), .val (.ref wLESS), .unset] [(.int zy), (.double (FP.i2d p1)), (.ref wLESS)])) (fun _ k => st46 _ (XS.astore X46.here hx rfl (hb hby at_82) rfl rfl (l' := #[.val (.int p0), .val (.int p1), .val (.int p2), .val (.int p3), .val (.int (2 : Int32)), .val (.int zm), .val (.int zy), .val (.int (1 : Int32)), .val (.ref wLESS), .unset]) rfl (XS.aload X46.here hx rfl (hb hby at_84) rfl rfl (XS.iloadN X46.here hx rfl (hb hby at_86) rfl (own_i2d X46.here hx rfl (hb hby at_87) rfl (XS.iload X46.here hx rfl (hb hby at_88) rfl k)))))) ?_
          refine own_go (T' := T46) (f' := (mkF m 91 #[.val (.int p0), .val (.int p1), .val (.int p2), .val (.int p3), .val (.int (2 : Int32)), .val (.int zm), .val (.int zy), .val (.int (1 : Int32)), .val (.ref wLESS), .unset] [(.double (FP.i2d zy)), (.double (FP.i2d p1)), (.ref wLESS)])) (fun _ k => own_i2d X46.here hx rfl (hb hby at_90) rfl k) ?_
          obtain ⟨cq47, kq47, q47a, q47b, q47c⟩ := isOf hZ hh46 E_LESS
          obtain ⟨_, _, ⟨T47, L47, k47, n47⟩, -, X47, ⟨Lc47, hQ47, l47, y47, z47⟩, st47⟩ := X46.virtualBack hx (y := mn2) (z := mn2) hown (mvT hZ (ow8 hw)) (mvT hZ (ow9 hw)) (notFace_of_selects (args := #[]) (mvT hZ (ow11 hw))) (mvT hZ (ow11 hw)) (mvT hZ (ow10 hw)) (by decide) (backOf (W := 0) (rm2_2gt l Z a0 hw [] wLESS (FP.i2d p1) (FP.i2d zy) h0 n0 Z0 O_LESS E_LESS hdc) hZ (ow12 hw) (ow6 hw) (by decide) (by decide)) q47a q47c (g := (mkF m 91 #[.val (.int p0), .val (.int p1), .val (.int p2), .val (.int p3), .val (.int (2 : Int32)), .val (.int zm), .val (.int zy), .val (.int (1 : Int32)), .val (.ref wLESS), .unset] [(.double (FP.i2d zy)), (.double (FP.i2d p1)), (.ref wLESS)])) rfl (by rw [hml]; rfl) (Steps.refl _) (argsL := [(.double (FP.i2d p1)), (.double (FP.i2d zy))]) (rest := []) (lenOf pd1 rfl) rfl (by show 2 * 0 + _ ≤ _; exact Nat.le_of_eq rfl) (hb hby at_91) (fun _ _ => ⟨rfl, hh46, (by decide : 0 + 0 ≤ _), (by decide : 0 + 0 ≤ _)⟩)
          dsimp only [Pt.U, Pt.locs, Pt.cells, Pt.slots] at X47 l47 y47 z47 st47 hQ47
          subst l47 y47 z47
          obtain ⟨rfl, N47q, hh47⟩ := hQ47
          have N47 := Fr.app N46 N47q
          refine own_go (T' := T47) (f' := (mkF m 102 #[.val (.int p0), .val (.int p1), .val (.int p2), .val (.int p3), .val (.int (2 : Int32)), .val (.int zm), .val (.int zy), .val (.int (1 : Int32)), .val (.ref wLESS), .val (.int (0 : Int32))] [(.int (1 : Int32)), (.int (2 : Int32)), (.int (0 : Int32))])) (fun _ k => st47.trans (XS.istore X47.here hx rfl (hb hby at_94) rfl (l' := #[.val (.int p0), .val (.int p1), .val (.int p2), .val (.int p3), .val (.int (2 : Int32)), .val (.int zm), .val (.int zy), .val (.int (1 : Int32)), .val (.ref wLESS), .val (.int (0 : Int32))]) rfl (XS.iload X47.here hx rfl (hb hby at_96) rfl (XS.iload X47.here hx rfl (hb hby at_98) rfl (XS.iload X47.here hx rfl (hb hby at_100) rfl k))))) ?_
          obtain ⟨_, _, ⟨T48, L48, k48, n48⟩, -, X48, ⟨Lc48, hQ48, l48, y48, z48⟩, st48⟩ := Jvm.LawKit.callS X47 hx (y := mn4) hown (mvT hZ (ow22 hw)) (mvT hZ (ow23 hw)) (mvT hZ (ow3 hw)) (mvT hZ (ow24 hw)) (by decide) (backOf (W := 1) (rm4_2gt l Z a0 hw [] h0 n0 Z0) hZ (ow24 hw) (ow3 hw) (by decide) (by decide)) (g := (mkF m 102 #[.val (.int p0), .val (.int p1), .val (.int p2), .val (.int p3), .val (.int (2 : Int32)), .val (.int zm), .val (.int zy), .val (.int (1 : Int32)), .val (.ref wLESS), .val (.int (0 : Int32))] [(.int (1 : Int32)), (.int (2 : Int32)), (.int (0 : Int32))])) rfl (by rw [hml]; rfl) (argsL := [(.int (2 : Int32)), (.int (1 : Int32))]) (rest := [(.int (0 : Int32))]) (lenOf pd3 rfl) rfl (by show 2 * 0 + _ ≤ _; exact Nat.le_of_eq rfl) (hb hby at_102) (fun _ _ => ⟨rfl, hh47, (by decide : 0 + 0 ≤ _), (by decide : 0 + 0 ≤ _)⟩)
          dsimp only [Pt.U, Pt.locs, Pt.cells, Pt.slots] at X48 l48 y48 z48 st48 hQ48
          subst l48 y48 z48
          obtain ⟨rfl, N48q, hh48⟩ := hQ48
          have N48 := Fr.app N47 N48q
          refine own_go (T' := T48) (f' := (mkF m 113 #[.val (.int p0), .val (.int p1), .val (.int p2), .val (.int p3), .val (.int (2 : Int32)), .val (.int zm), .val (.int zy), .val (.int (1 : Int32)), .val (.ref wLESS), .val (.int (0 : Int32))] [(.int (1 : Int32))])) (fun _ k => st48 _ (XS.icmpNo X48.here hx rfl (hb hby at_105) rfl (teq (by decide : ((0 : Int32) = (0 : Int32)))).2 (XS.iconst X48.here hx rfl (hb hby at_108) (XS.goto X48.here hx rfl (pc0 := 109) (pc' := 113) rfl (hb hby at_109) (by decide) (by decide) k)))) ?_
          refine own_ret X48 (v := some (.int (1 : Int32))) (fun h => by rw [Bd.returns] at h; cases h) Bd.notSynchronized (fun fs hr => retN X48 hx (t := .boolean) Bd.returns (by simp) (hb hby at_113) hr) ?_ (by decide) (by decide)
          show Q0 Z p0 p1 p2 p3 wEQUAL wNOT_EQUAL wLESS wLESS_OR_EQUAL wGREATER wGREATER_OR_EQUAL h0 n0 _ T48.heap _
          exact ⟨rfl, N48⟩
        · refine own_go (T' := s₁) (f' := (mkF m 79 #[.val (.int p0), .val (.int p1), .val (.int p2), .val (.int p3), .val (.int (3 : Int32)), .val (.int zm), .val (.int zy), .val (.int (1 : Int32)), .unset, .unset] [(.int (3 : Int32))])) (fun _ k => XS.iload X0.here hx rfl (hb hby at_77) rfl k) ?_
          obtain ⟨_, _, ⟨T49, L49, k49, n49⟩, -, X49, ⟨Lc49, hQ49, l49, y49, z49⟩, st49⟩ := Jvm.LawKit.callS X0 hx (y := mn3) hown (mvT hZ (ow1 hw)) (mvT hZ (ow2 hw)) (mvT hZ (ow3 hw)) (mvT hZ (ow4 hw)) (by decide) (backOf (W := 0) (rm1_3 l Z a0 hw [] wEQUAL wNOT_EQUAL wLESS wLESS_OR_EQUAL wGREATER wGREATER_OR_EQUAL h0 n0 Z0 S_EQUAL S_NOT_EQUAL S_LESS S_LESS_OR_EQUAL S_GREATER S_GREATER_OR_EQUAL) hZ (ow4 hw) (ow3 hw) (by decide) (by decide)) (g := (mkF m 79 #[.val (.int p0), .val (.int p1), .val (.int p2), .val (.int p3), .val (.int (3 : Int32)), .val (.int zm), .val (.int zy), .val (.int (1 : Int32)), .unset, .unset] [(.int (3 : Int32))])) rfl (by rw [hml]; rfl) (argsL := [(.int (3 : Int32))]) (rest := []) (lenOf pd2 rfl) rfl (by show 2 * 0 + _ ≤ _; exact Nat.le_of_eq rfl) (hb hby at_79) (fun _ _ => ⟨rfl, e0, (by decide : 0 + 0 ≤ _), (by decide : 0 + 0 ≤ _)⟩)
          dsimp only [Pt.U, Pt.locs, Pt.cells, Pt.slots] at X49 l49 y49 z49 st49 hQ49
          subst l49 y49 z49
          obtain ⟨rfl, N49q, hh49⟩ := hQ49
          have N49 := Fr.app N0 N49q
          refine own_go (T' := T49) (f' := (mkF m 90 #[.val (.int p0), .val (.int p1), .val (.int p2), .val (.int p3), .val (.int (3 : Int32)), .val (.int zm), .val (.int zy), .val (.int (1 : Int32)), .val (.ref wLESS_OR_EQUAL), .unset] [(.int zy), (.double (FP.i2d p1)), (.ref wLESS_OR_EQUAL)])) (fun _ k => st49 _ (XS.astore X49.here hx rfl (hb hby at_82) rfl rfl (l' := #[.val (.int p0), .val (.int p1), .val (.int p2), .val (.int p3), .val (.int (3 : Int32)), .val (.int zm), .val (.int zy), .val (.int (1 : Int32)), .val (.ref wLESS_OR_EQUAL), .unset]) rfl (XS.aload X49.here hx rfl (hb hby at_84) rfl rfl (XS.iloadN X49.here hx rfl (hb hby at_86) rfl (own_i2d X49.here hx rfl (hb hby at_87) rfl (XS.iload X49.here hx rfl (hb hby at_88) rfl k)))))) ?_
          refine own_go (T' := T49) (f' := (mkF m 91 #[.val (.int p0), .val (.int p1), .val (.int p2), .val (.int p3), .val (.int (3 : Int32)), .val (.int zm), .val (.int zy), .val (.int (1 : Int32)), .val (.ref wLESS_OR_EQUAL), .unset] [(.double (FP.i2d zy)), (.double (FP.i2d p1)), (.ref wLESS_OR_EQUAL)])) (fun _ k => own_i2d X49.here hx rfl (hb hby at_90) rfl k) ?_
          obtain ⟨cq50, kq50, q50a, q50b, q50c⟩ := isOf hZ hh49 E_LESS_OR_EQUAL
          obtain ⟨_, _, ⟨T50, L50, k50, n50⟩, -, X50, ⟨Lc50, hQ50, l50, y50, z50⟩, st50⟩ := X49.virtualBack hx (y := mn2) (z := mn2) hown (mvT hZ (ow8 hw)) (mvT hZ (ow9 hw)) (notFace_of_selects (args := #[]) (mvT hZ (ow11 hw))) (mvT hZ (ow11 hw)) (mvT hZ (ow10 hw)) (by decide) (backOf (W := 0) (rm2_3gt l Z a0 hw [] wLESS_OR_EQUAL (FP.i2d p1) (FP.i2d zy) h0 n0 Z0 O_LESS_OR_EQUAL E_LESS_OR_EQUAL hdc) hZ (ow12 hw) (ow6 hw) (by decide) (by decide)) q50a q50c (g := (mkF m 91 #[.val (.int p0), .val (.int p1), .val (.int p2), .val (.int p3), .val (.int (3 : Int32)), .val (.int zm), .val (.int zy), .val (.int (1 : Int32)), .val (.ref wLESS_OR_EQUAL), .unset] [(.double (FP.i2d zy)), (.double (FP.i2d p1)), (.ref wLESS_OR_EQUAL)])) rfl (by rw [hml]; rfl) (Steps.refl _) (argsL := [(.double (FP.i2d p1)), (.double (FP.i2d zy))]) (rest := []) (lenOf pd1 rfl) rfl (by show 2 * 0 + _ ≤ _; exact Nat.le_of_eq rfl) (hb hby at_91) (fun _ _ => ⟨rfl, hh49, (by decide : 0 + 0 ≤ _), (by decide : 0 + 0 ≤ _)⟩)
          dsimp only [Pt.U, Pt.locs, Pt.cells, Pt.slots] at X50 l50 y50 z50 st50 hQ50
          subst l50 y50 z50
          obtain ⟨rfl, N50q, hh50⟩ := hQ50
          have N50 := Fr.app N49 N50q
          refine own_go (T' := T50) (f' := (mkF m 102 #[.val (.int p0), .val (.int p1), .val (.int p2), .val (.int p3), .val (.int (3 : Int32)), .val (.int zm), .val (.int zy), .val (.int (1 : Int32)), .val (.ref wLESS_OR_EQUAL), .val (.int (0 : Int32))] [(.int (1 : Int32)), (.int (3 : Int32)), (.int (0 : Int32))])) (fun _ k => st50.trans (XS.istore X50.here hx rfl (hb hby at_94) rfl (l' := #[.val (.int p0), .val (.int p1), .val (.int p2), .val (.int p3), .val (.int (3 : Int32)), .val (.int zm), .val (.int zy), .val (.int (1 : Int32)), .val (.ref wLESS_OR_EQUAL), .val (.int (0 : Int32))]) rfl (XS.iload X50.here hx rfl (hb hby at_96) rfl (XS.iload X50.here hx rfl (hb hby at_98) rfl (XS.iload X50.here hx rfl (hb hby at_100) rfl k))))) ?_
          obtain ⟨_, _, ⟨T51, L51, k51, n51⟩, -, X51, ⟨Lc51, hQ51, l51, y51, z51⟩, st51⟩ := Jvm.LawKit.callS X50 hx (y := mn4) hown (mvT hZ (ow22 hw)) (mvT hZ (ow23 hw)) (mvT hZ (ow3 hw)) (mvT hZ (ow24 hw)) (by decide) (backOf (W := 1) (rm4_3gt l Z a0 hw [] h0 n0 Z0) hZ (ow24 hw) (ow3 hw) (by decide) (by decide)) (g := (mkF m 102 #[.val (.int p0), .val (.int p1), .val (.int p2), .val (.int p3), .val (.int (3 : Int32)), .val (.int zm), .val (.int zy), .val (.int (1 : Int32)), .val (.ref wLESS_OR_EQUAL), .val (.int (0 : Int32))] [(.int (1 : Int32)), (.int (3 : Int32)), (.int (0 : Int32))])) rfl (by rw [hml]; rfl) (argsL := [(.int (3 : Int32)), (.int (1 : Int32))]) (rest := [(.int (0 : Int32))]) (lenOf pd3 rfl) rfl (by show 2 * 0 + _ ≤ _; exact Nat.le_of_eq rfl) (hb hby at_102) (fun _ _ => ⟨rfl, hh50, (by decide : 0 + 0 ≤ _), (by decide : 0 + 0 ≤ _)⟩)
          dsimp only [Pt.U, Pt.locs, Pt.cells, Pt.slots] at X51 l51 y51 z51 st51 hQ51
          subst l51 y51 z51
          obtain ⟨rfl, N51q, hh51⟩ := hQ51
          have N51 := Fr.app N50 N51q
          refine own_go (T' := T51) (f' := (mkF m 113 #[.val (.int p0), .val (.int p1), .val (.int p2), .val (.int p3), .val (.int (3 : Int32)), .val (.int zm), .val (.int zy), .val (.int (1 : Int32)), .val (.ref wLESS_OR_EQUAL), .val (.int (0 : Int32))] [(.int (1 : Int32))])) (fun _ k => st51 _ (XS.icmpNo X51.here hx rfl (hb hby at_105) rfl (teq (by decide : ((0 : Int32) = (0 : Int32)))).2 (XS.iconst X51.here hx rfl (hb hby at_108) (XS.goto X51.here hx rfl (pc0 := 109) (pc' := 113) rfl (hb hby at_109) (by decide) (by decide) k)))) ?_
          refine own_ret X51 (v := some (.int (1 : Int32))) (fun h => by rw [Bd.returns] at h; cases h) Bd.notSynchronized (fun fs hr => retN X51 hx (t := .boolean) Bd.returns (by simp) (hb hby at_113) hr) ?_ (by decide) (by decide)
          show Q0 Z p0 p1 p2 p3 wEQUAL wNOT_EQUAL wLESS wLESS_OR_EQUAL wGREATER wGREATER_OR_EQUAL h0 n0 _ T51.heap _
          exact ⟨rfl, N51⟩
        · refine own_go (T' := s₁) (f' := (mkF m 79 #[.val (.int p0), .val (.int p1), .val (.int p2), .val (.int p3), .val (.int (4 : Int32)), .val (.int zm), .val (.int zy), .val (.int (1 : Int32)), .unset, .unset] [(.int (4 : Int32))])) (fun _ k => XS.iload X0.here hx rfl (hb hby at_77) rfl k) ?_
          obtain ⟨_, _, ⟨T52, L52, k52, n52⟩, -, X52, ⟨Lc52, hQ52, l52, y52, z52⟩, st52⟩ := Jvm.LawKit.callS X0 hx (y := mn3) hown (mvT hZ (ow1 hw)) (mvT hZ (ow2 hw)) (mvT hZ (ow3 hw)) (mvT hZ (ow4 hw)) (by decide) (backOf (W := 0) (rm1_4 l Z a0 hw [] wEQUAL wNOT_EQUAL wLESS wLESS_OR_EQUAL wGREATER wGREATER_OR_EQUAL h0 n0 Z0 S_EQUAL S_NOT_EQUAL S_LESS S_LESS_OR_EQUAL S_GREATER S_GREATER_OR_EQUAL) hZ (ow4 hw) (ow3 hw) (by decide) (by decide)) (g := (mkF m 79 #[.val (.int p0), .val (.int p1), .val (.int p2), .val (.int p3), .val (.int (4 : Int32)), .val (.int zm), .val (.int zy), .val (.int (1 : Int32)), .unset, .unset] [(.int (4 : Int32))])) rfl (by rw [hml]; rfl) (argsL := [(.int (4 : Int32))]) (rest := []) (lenOf pd2 rfl) rfl (by show 2 * 0 + _ ≤ _; exact Nat.le_of_eq rfl) (hb hby at_79) (fun _ _ => ⟨rfl, e0, (by decide : 0 + 0 ≤ _), (by decide : 0 + 0 ≤ _)⟩)
          dsimp only [Pt.U, Pt.locs, Pt.cells, Pt.slots] at X52 l52 y52 z52 st52 hQ52
          subst l52 y52 z52
          obtain ⟨rfl, N52q, hh52⟩ := hQ52
          have N52 := Fr.app N0 N52q
          refine own_go (T' := T52) (f' := (mkF m 90 #[.val (.int p0), .val (.int p1), .val (.int p2), .val (.int p3), .val (.int (4 : Int32)), .val (.int zm), .val (.int zy), .val (.int (1 : Int32)), .val (.ref wGREATER), .unset] [(.int zy), (.double (FP.i2d p1)), (.ref wGREATER)])) (fun _ k => st52 _ (XS.astore X52.here hx rfl (hb hby at_82) rfl rfl (l' := #[.val (.int p0), .val (.int p1), .val (.int p2), .val (.int p3), .val (.int (4 : Int32)), .val (.int zm), .val (.int zy), .val (.int (1 : Int32)), .val (.ref wGREATER), .unset]) rfl (XS.aload X52.here hx rfl (hb hby at_84) rfl rfl (XS.iloadN X52.here hx rfl (hb hby at_86) rfl (own_i2d X52.here hx rfl (hb hby at_87) rfl (XS.iload X52.here hx rfl (hb hby at_88) rfl k)))))) ?_
          refine own_go (T' := T52) (f' := (mkF m 91 #[.val (.int p0), .val (.int p1), .val (.int p2), .val (.int p3), .val (.int (4 : Int32)), .val (.int zm), .val (.int zy), .val (.int (1 : Int32)), .val (.ref wGREATER), .unset] [(.double (FP.i2d zy)), (.double (FP.i2d p1)), (.ref wGREATER)])) (fun _ k => own_i2d X52.here hx rfl (hb hby at_90) rfl k) ?_
          obtain ⟨cq53, kq53, q53a, q53b, q53c⟩ := isOf hZ hh52 E_GREATER
          obtain ⟨_, _, ⟨T53, L53, k53, n53⟩, -, X53, ⟨Lc53, hQ53, l53, y53, z53⟩, st53⟩ := X52.virtualBack hx (y := mn2) (z := mn2) hown (mvT hZ (ow8 hw)) (mvT hZ (ow9 hw)) (notFace_of_selects (args := #[]) (mvT hZ (ow11 hw))) (mvT hZ (ow11 hw)) (mvT hZ (ow10 hw)) (by decide) (backOf (W := 0) (rm2_4gt l Z a0 hw [] wGREATER (FP.i2d p1) (FP.i2d zy) h0 n0 Z0 O_GREATER E_GREATER hdc) hZ (ow12 hw) (ow6 hw) (by decide) (by decide)) q53a q53c (g := (mkF m 91 #[.val (.int p0), .val (.int p1), .val (.int p2), .val (.int p3), .val (.int (4 : Int32)), .val (.int zm), .val (.int zy), .val (.int (1 : Int32)), .val (.ref wGREATER), .unset] [(.double (FP.i2d zy)), (.double (FP.i2d p1)), (.ref wGREATER)])) rfl (by rw [hml]; rfl) (Steps.refl _) (argsL := [(.double (FP.i2d p1)), (.double (FP.i2d zy))]) (rest := []) (lenOf pd1 rfl) rfl (by show 2 * 0 + _ ≤ _; exact Nat.le_of_eq rfl) (hb hby at_91) (fun _ _ => ⟨rfl, hh52, (by decide : 0 + 0 ≤ _), (by decide : 0 + 0 ≤ _)⟩)
          dsimp only [Pt.U, Pt.locs, Pt.cells, Pt.slots] at X53 l53 y53 z53 st53 hQ53
          subst l53 y53 z53
          obtain ⟨rfl, N53q, hh53⟩ := hQ53
          have N53 := Fr.app N52 N53q
          refine own_go (T' := T53) (f' := (mkF m 102 #[.val (.int p0), .val (.int p1), .val (.int p2), .val (.int p3), .val (.int (4 : Int32)), .val (.int zm), .val (.int zy), .val (.int (1 : Int32)), .val (.ref wGREATER), .val (.int (1 : Int32))] [(.int (1 : Int32)), (.int (4 : Int32)), (.int (1 : Int32))])) (fun _ k => st53.trans (XS.istore X53.here hx rfl (hb hby at_94) rfl (l' := #[.val (.int p0), .val (.int p1), .val (.int p2), .val (.int p3), .val (.int (4 : Int32)), .val (.int zm), .val (.int zy), .val (.int (1 : Int32)), .val (.ref wGREATER), .val (.int (1 : Int32))]) rfl (XS.iload X53.here hx rfl (hb hby at_96) rfl (XS.iload X53.here hx rfl (hb hby at_98) rfl (XS.iload X53.here hx rfl (hb hby at_100) rfl k))))) ?_
          obtain ⟨_, _, ⟨T54, L54, k54, n54⟩, -, X54, ⟨Lc54, hQ54, l54, y54, z54⟩, st54⟩ := Jvm.LawKit.callS X53 hx (y := mn4) hown (mvT hZ (ow22 hw)) (mvT hZ (ow23 hw)) (mvT hZ (ow3 hw)) (mvT hZ (ow24 hw)) (by decide) (backOf (W := 1) (rm4_4gt l Z a0 hw [] h0 n0 Z0) hZ (ow24 hw) (ow3 hw) (by decide) (by decide)) (g := (mkF m 102 #[.val (.int p0), .val (.int p1), .val (.int p2), .val (.int p3), .val (.int (4 : Int32)), .val (.int zm), .val (.int zy), .val (.int (1 : Int32)), .val (.ref wGREATER), .val (.int (1 : Int32))] [(.int (1 : Int32)), (.int (4 : Int32)), (.int (1 : Int32))])) rfl (by rw [hml]; rfl) (argsL := [(.int (4 : Int32)), (.int (1 : Int32))]) (rest := [(.int (1 : Int32))]) (lenOf pd3 rfl) rfl (by show 2 * 0 + _ ≤ _; exact Nat.le_of_eq rfl) (hb hby at_102) (fun _ _ => ⟨rfl, hh53, (by decide : 0 + 0 ≤ _), (by decide : 0 + 0 ≤ _)⟩)
          dsimp only [Pt.U, Pt.locs, Pt.cells, Pt.slots] at X54 l54 y54 z54 st54 hQ54
          subst l54 y54 z54
          obtain ⟨rfl, N54q, hh54⟩ := hQ54
          have N54 := Fr.app N53 N54q
          refine own_go (T' := T54) (f' := (mkF m 113 #[.val (.int p0), .val (.int p1), .val (.int p2), .val (.int p3), .val (.int (4 : Int32)), .val (.int zm), .val (.int zy), .val (.int (1 : Int32)), .val (.ref wGREATER), .val (.int (1 : Int32))] [(.int (1 : Int32))])) (fun _ k => st54 _ (XS.icmpNo X54.here hx rfl (hb hby at_105) rfl (teq (by decide : ((1 : Int32) = (1 : Int32)))).2 (XS.iconst X54.here hx rfl (hb hby at_108) (XS.goto X54.here hx rfl (pc0 := 109) (pc' := 113) rfl (hb hby at_109) (by decide) (by decide) k)))) ?_
          refine own_ret X54 (v := some (.int (1 : Int32))) (fun h => by rw [Bd.returns] at h; cases h) Bd.notSynchronized (fun fs hr => retN X54 hx (t := .boolean) Bd.returns (by simp) (hb hby at_113) hr) ?_ (by decide) (by decide)
          show Q0 Z p0 p1 p2 p3 wEQUAL wNOT_EQUAL wLESS wLESS_OR_EQUAL wGREATER wGREATER_OR_EQUAL h0 n0 _ T54.heap _
          exact ⟨rfl, N54⟩
        · refine own_go (T' := s₁) (f' := (mkF m 79 #[.val (.int p0), .val (.int p1), .val (.int p2), .val (.int p3), .val (.int (5 : Int32)), .val (.int zm), .val (.int zy), .val (.int (1 : Int32)), .unset, .unset] [(.int (5 : Int32))])) (fun _ k => XS.iload X0.here hx rfl (hb hby at_77) rfl k) ?_
          obtain ⟨_, _, ⟨T55, L55, k55, n55⟩, -, X55, ⟨Lc55, hQ55, l55, y55, z55⟩, st55⟩ := Jvm.LawKit.callS X0 hx (y := mn3) hown (mvT hZ (ow1 hw)) (mvT hZ (ow2 hw)) (mvT hZ (ow3 hw)) (mvT hZ (ow4 hw)) (by decide) (backOf (W := 0) (rm1_5 l Z a0 hw [] wEQUAL wNOT_EQUAL wLESS wLESS_OR_EQUAL wGREATER wGREATER_OR_EQUAL h0 n0 Z0 S_EQUAL S_NOT_EQUAL S_LESS S_LESS_OR_EQUAL S_GREATER S_GREATER_OR_EQUAL) hZ (ow4 hw) (ow3 hw) (by decide) (by decide)) (g := (mkF m 79 #[.val (.int p0), .val (.int p1), .val (.int p2), .val (.int p3), .val (.int (5 : Int32)), .val (.int zm), .val (.int zy), .val (.int (1 : Int32)), .unset, .unset] [(.int (5 : Int32))])) rfl (by rw [hml]; rfl) (argsL := [(.int (5 : Int32))]) (rest := []) (lenOf pd2 rfl) rfl (by show 2 * 0 + _ ≤ _; exact Nat.le_of_eq rfl) (hb hby at_79) (fun _ _ => ⟨rfl, e0, (by decide : 0 + 0 ≤ _), (by decide : 0 + 0 ≤ _)⟩)
          dsimp only [Pt.U, Pt.locs, Pt.cells, Pt.slots] at X55 l55 y55 z55 st55 hQ55
          subst l55 y55 z55
          obtain ⟨rfl, N55q, hh55⟩ := hQ55
          have N55 := Fr.app N0 N55q
          refine own_go (T' := T55) (f' := (mkF m 90 #[.val (.int p0), .val (.int p1), .val (.int p2), .val (.int p3), .val (.int (5 : Int32)), .val (.int zm), .val (.int zy), .val (.int (1 : Int32)), .val (.ref wGREATER_OR_EQUAL), .unset] [(.int zy), (.double (FP.i2d p1)), (.ref wGREATER_OR_EQUAL)])) (fun _ k => st55 _ (XS.astore X55.here hx rfl (hb hby at_82) rfl rfl (l' := #[.val (.int p0), .val (.int p1), .val (.int p2), .val (.int p3), .val (.int (5 : Int32)), .val (.int zm), .val (.int zy), .val (.int (1 : Int32)), .val (.ref wGREATER_OR_EQUAL), .unset]) rfl (XS.aload X55.here hx rfl (hb hby at_84) rfl rfl (XS.iloadN X55.here hx rfl (hb hby at_86) rfl (own_i2d X55.here hx rfl (hb hby at_87) rfl (XS.iload X55.here hx rfl (hb hby at_88) rfl k)))))) ?_
          refine own_go (T' := T55) (f' := (mkF m 91 #[.val (.int p0), .val (.int p1), .val (.int p2), .val (.int p3), .val (.int (5 : Int32)), .val (.int zm), .val (.int zy), .val (.int (1 : Int32)), .val (.ref wGREATER_OR_EQUAL), .unset] [(.double (FP.i2d zy)), (.double (FP.i2d p1)), (.ref wGREATER_OR_EQUAL)])) (fun _ k => own_i2d X55.here hx rfl (hb hby at_90) rfl k) ?_
          obtain ⟨cq56, kq56, q56a, q56b, q56c⟩ := isOf hZ hh55 E_GREATER_OR_EQUAL
          obtain ⟨_, _, ⟨T56, L56, k56, n56⟩, -, X56, ⟨Lc56, hQ56, l56, y56, z56⟩, st56⟩ := X55.virtualBack hx (y := mn2) (z := mn2) hown (mvT hZ (ow8 hw)) (mvT hZ (ow9 hw)) (notFace_of_selects (args := #[]) (mvT hZ (ow11 hw))) (mvT hZ (ow11 hw)) (mvT hZ (ow10 hw)) (by decide) (backOf (W := 0) (rm2_5gt l Z a0 hw [] wGREATER_OR_EQUAL (FP.i2d p1) (FP.i2d zy) h0 n0 Z0 O_GREATER_OR_EQUAL E_GREATER_OR_EQUAL hdc) hZ (ow12 hw) (ow6 hw) (by decide) (by decide)) q56a q56c (g := (mkF m 91 #[.val (.int p0), .val (.int p1), .val (.int p2), .val (.int p3), .val (.int (5 : Int32)), .val (.int zm), .val (.int zy), .val (.int (1 : Int32)), .val (.ref wGREATER_OR_EQUAL), .unset] [(.double (FP.i2d zy)), (.double (FP.i2d p1)), (.ref wGREATER_OR_EQUAL)])) rfl (by rw [hml]; rfl) (Steps.refl _) (argsL := [(.double (FP.i2d p1)), (.double (FP.i2d zy))]) (rest := []) (lenOf pd1 rfl) rfl (by show 2 * 0 + _ ≤ _; exact Nat.le_of_eq rfl) (hb hby at_91) (fun _ _ => ⟨rfl, hh55, (by decide : 0 + 0 ≤ _), (by decide : 0 + 0 ≤ _)⟩)
          dsimp only [Pt.U, Pt.locs, Pt.cells, Pt.slots] at X56 l56 y56 z56 st56 hQ56
          subst l56 y56 z56
          obtain ⟨rfl, N56q, hh56⟩ := hQ56
          have N56 := Fr.app N55 N56q
          refine own_go (T' := T56) (f' := (mkF m 102 #[.val (.int p0), .val (.int p1), .val (.int p2), .val (.int p3), .val (.int (5 : Int32)), .val (.int zm), .val (.int zy), .val (.int (1 : Int32)), .val (.ref wGREATER_OR_EQUAL), .val (.int (1 : Int32))] [(.int (1 : Int32)), (.int (5 : Int32)), (.int (1 : Int32))])) (fun _ k => st56.trans (XS.istore X56.here hx rfl (hb hby at_94) rfl (l' := #[.val (.int p0), .val (.int p1), .val (.int p2), .val (.int p3), .val (.int (5 : Int32)), .val (.int zm), .val (.int zy), .val (.int (1 : Int32)), .val (.ref wGREATER_OR_EQUAL), .val (.int (1 : Int32))]) rfl (XS.iload X56.here hx rfl (hb hby at_96) rfl (XS.iload X56.here hx rfl (hb hby at_98) rfl (XS.iload X56.here hx rfl (hb hby at_100) rfl k))))) ?_
          obtain ⟨_, _, ⟨T57, L57, k57, n57⟩, -, X57, ⟨Lc57, hQ57, l57, y57, z57⟩, st57⟩ := Jvm.LawKit.callS X56 hx (y := mn4) hown (mvT hZ (ow22 hw)) (mvT hZ (ow23 hw)) (mvT hZ (ow3 hw)) (mvT hZ (ow24 hw)) (by decide) (backOf (W := 1) (rm4_5gt l Z a0 hw [] h0 n0 Z0) hZ (ow24 hw) (ow3 hw) (by decide) (by decide)) (g := (mkF m 102 #[.val (.int p0), .val (.int p1), .val (.int p2), .val (.int p3), .val (.int (5 : Int32)), .val (.int zm), .val (.int zy), .val (.int (1 : Int32)), .val (.ref wGREATER_OR_EQUAL), .val (.int (1 : Int32))] [(.int (1 : Int32)), (.int (5 : Int32)), (.int (1 : Int32))])) rfl (by rw [hml]; rfl) (argsL := [(.int (5 : Int32)), (.int (1 : Int32))]) (rest := [(.int (1 : Int32))]) (lenOf pd3 rfl) rfl (by show 2 * 0 + _ ≤ _; exact Nat.le_of_eq rfl) (hb hby at_102) (fun _ _ => ⟨rfl, hh56, (by decide : 0 + 0 ≤ _), (by decide : 0 + 0 ≤ _)⟩)
          dsimp only [Pt.U, Pt.locs, Pt.cells, Pt.slots] at X57 l57 y57 z57 st57 hQ57
          subst l57 y57 z57
          obtain ⟨rfl, N57q, hh57⟩ := hQ57
          have N57 := Fr.app N56 N57q
          refine own_go (T' := T57) (f' := (mkF m 113 #[.val (.int p0), .val (.int p1), .val (.int p2), .val (.int p3), .val (.int (5 : Int32)), .val (.int zm), .val (.int zy), .val (.int (1 : Int32)), .val (.ref wGREATER_OR_EQUAL), .val (.int (1 : Int32))] [(.int (1 : Int32))])) (fun _ k => st57 _ (XS.icmpNo X57.here hx rfl (hb hby at_105) rfl (teq (by decide : ((1 : Int32) = (1 : Int32)))).2 (XS.iconst X57.here hx rfl (hb hby at_108) (XS.goto X57.here hx rfl (pc0 := 109) (pc' := 113) rfl (hb hby at_109) (by decide) (by decide) k)))) ?_
          refine own_ret X57 (v := some (.int (1 : Int32))) (fun h => by rw [Bd.returns] at h; cases h) Bd.notSynchronized (fun fs hr => retN X57 hx (t := .boolean) Bd.returns (by simp) (hb hby at_113) hr) ?_ (by decide) (by decide)
          show Q0 Z p0 p1 p2 p3 wEQUAL wNOT_EQUAL wLESS wLESS_OR_EQUAL wGREATER wGREATER_OR_EQUAL h0 n0 _ T57.heap _
          exact ⟨rfl, N57⟩
  refine own_go (T' := s₁) (f' := (mkF m 20 #[.val (.int p0), .val (.int p1), .val (.int p2), .val (.int p3), .val (.int zk), .val (.int zm), .val (.int p2), .unset, .unset, .unset] [(.int (1 : Int32)), (.int zm)])) (fun _ k => XS.iload X0.here hx rfl (hb hby at_17) rfl (XS.iconst X0.here hx rfl (hb hby at_19) k)) ?_
  by_cases hc58 : zm = (1 : Int32)
  · refine own_go (T' := s₁) (f' := (mkF m 54 #[.val (.int p0), .val (.int p1), .val (.int p2), .val (.int p3), .val (.int zk), .val (.int zm), .val (.int p1), .unset, .unset, .unset] [])) (fun _ k => XS.icmpNo X0.here hx rfl (hb hby at_20) rfl (teq hc58).2 (XS.iloadN X0.here hx rfl (hb hby at_23) rfl (XS.istore X0.here hx rfl (hb hby at_24) rfl (l' := #[.val (.int p0), .val (.int p1), .val (.int p2), .val (.int p3), .val (.int zk), .val (.int zm), .val (.int p1), .unset, .unset, .unset]) rfl (XS.goto X0.here hx rfl (pc0 := 26) (pc' := 54) rfl (hb hby at_26) (by decide) (by decide) k)))) ?_
    exact rest1 p1
  · refine own_go (T' := s₁) (f' := (mkF m 32 #[.val (.int p0), .val (.int p1), .val (.int p2), .val (.int p3), .val (.int zk), .val (.int zm), .val (.int p2), .unset, .unset, .unset] [(.int (2 : Int32)), (.int zm)])) (fun _ k => XS.icmpYes X0.here hx rfl (pc0 := 20) (pc' := 29) rfl (hb hby at_20) rfl (feq hc58).2 (by decide) (by decide) (XS.iload X0.here hx rfl (hb hby at_29) rfl (XS.iconst X0.here hx rfl (hb hby at_31) k))) ?_
    by_cases hc59 : zm = (2 : Int32)
    · refine own_go (T' := s₁) (f' := (mkF m 54 #[.val (.int p0), .val (.int p1), .val (.int p2), .val (.int p3), .val (.int zk), .val (.int zm), .val (.int (p1 + (1 : Int32))), .unset, .unset, .unset] [])) (fun _ k => XS.icmpNo X0.here hx rfl (hb hby at_32) rfl (teq hc59).2 (XS.iloadN X0.here hx rfl (hb hby at_35) rfl (XS.iconst X0.here hx rfl (hb hby at_36) (XS.iadd X0.here hx rfl (hb hby at_37) rfl (XS.istore X0.here hx rfl (hb hby at_38) rfl (l' := #[.val (.int p0), .val (.int p1), .val (.int p2), .val (.int p3), .val (.int zk), .val (.int zm), .val (.int (p1 + (1 : Int32))), .unset, .unset, .unset]) rfl (XS.goto X0.here hx rfl (pc0 := 40) (pc' := 54) rfl (hb hby at_40) (by decide) (by decide) k)))))) ?_
      exact rest1 (p1 + (1 : Int32))
    · refine own_go (T' := s₁) (f' := (mkF m 46 #[.val (.int p0), .val (.int p1), .val (.int p2), .val (.int p3), .val (.int zk), .val (.int zm), .val (.int p2), .unset, .unset, .unset] [(.int (3 : Int32)), (.int zm)])) (fun _ k => XS.icmpYes X0.here hx rfl (pc0 := 32) (pc' := 43) rfl (hb hby at_32) rfl (feq hc59).2 (by decide) (by decide) (XS.iload X0.here hx rfl (hb hby at_43) rfl (XS.iconst X0.here hx rfl (hb hby at_45) k))) ?_
      by_cases hc60 : zm = (3 : Int32)
      · refine own_go (T' := s₁) (f' := (mkF m 54 #[.val (.int p0), .val (.int p1), .val (.int p2), .val (.int p3), .val (.int zk), .val (.int zm), .val (.int (p1 - (1 : Int32))), .unset, .unset, .unset] [])) (fun _ k => XS.icmpNo X0.here hx rfl (hb hby at_46) rfl (teq hc60).2 (XS.iloadN X0.here hx rfl (hb hby at_49) rfl (XS.iconst X0.here hx rfl (hb hby at_50) (XS.isub X0.here hx rfl (hb hby at_51) rfl (XS.istore X0.here hx rfl (hb hby at_52) rfl (l' := #[.val (.int p0), .val (.int p1), .val (.int p2), .val (.int p3), .val (.int zk), .val (.int zm), .val (.int (p1 - (1 : Int32))), .unset, .unset, .unset]) rfl k))))) ?_
        exact rest1 (p1 - (1 : Int32))
      · refine own_go (T' := s₁) (f' := (mkF m 54 #[.val (.int p0), .val (.int p1), .val (.int p2), .val (.int p3), .val (.int zk), .val (.int zm), .val (.int p2), .unset, .unset, .unset] [])) (fun _ k => XS.icmpYes X0.here hx rfl (pc0 := 46) (pc' := 54) rfl (hb hby at_46) rfl (feq hc60).2 (by decide) (by decide) k) ?_
        exact rest1 p2
set_option maxRecDepth 65536 in
set_option maxHeartbeats 40000000 in
theorem comes_1 {Post : Tables → Env → Array Value → State → Outcome → State → Prop} (hpost : ∀ tb e args s v u, (limb_1_1.after args s (.returned v) u = true ∧ limb_1_2.after args s (.returned v) u = true ∧ True) → FrameEnd s (.returned v) u (Jvm.fieldLocs frame_1_writes args s ++ Jvm.arrayLocs frame_1_arrays args s ++ Jvm.staticLocs frame_1_statics s) 0 0 → Post tb e args s (.returned v) u) :
    ArmFor flags0 classFile x code maxLocals ret World_1 tables_1 room_1 Calls_1 rest_1 Pre_1 Post := by
  intro l hfl _ _ p e ha hc hk s m args below hf hA hF happ hP
  obtain ⟨hcalls, hrest, hpre⟩ := hP
  obtain ⟨-, -, -, hnamed, -, -, -, hat⟩ := (Spec.applies_iff hf).mp happ
  obtain ⟨hg, hn⟩ := and_e (Cond.before_iff.mp (show (Jvm.Cond.and given_1 narrow_1).before args s = true from hpre))
  obtain ⟨hg_2, hg_3⟩ := and_e hg
  obtain ⟨hg_4, hg_5⟩ := and_e hg_3
  obtain ⟨hg_6, hg_7⟩ := and_e hg_5
  obtain ⟨hg_8, hg_9⟩ := and_e hg_7
  obtain ⟨w0, w1, w2, w3, rfl⟩ : ∃ w0 w1 w2 w3 : Value, args = #[w0, w1, w2, w3] := by
    have hs : args.size = 4 := by simpa [Cond.value, given_1] using hg_2
    obtain ⟨L⟩ := args
    match L, hs with
    | [w0, w1, w2, w3], _ => exact ⟨w0, w1, w2, w3, rfl⟩
  have hw := fun d (hd : d ∈ tables_1) => atoms_spec (ws := Jvm.Cond.code x code maxLocals ret :: tables_1) hat d (List.mem_cons_of_mem _ hd)
  have hfit : Fit s := fun {y c} hc i hi => by
    obtain ⟨ha, rfl⟩ := Array.getElem?_eq_some_iff.mp hc
    have q := List.all_eq_true.mp ((Array.all_eq_true_iff_forall_mem.mp hF) _ (Array.getElem_mem ha)) i (List.mem_range.mpr hi)
    simpa [Array.getElem?_eq_getElem hi] using q
  obtain ⟨i0, ei0⟩ := is_v hg_4
  obtain rfl : w0 = (.int i0) := Option.some.inj ei0
  obtain ⟨i1, ei1⟩ := is_v hg_6
  obtain rfl : w1 = (.int i1) := Option.some.inj ei1
  obtain ⟨i2, ei2⟩ := is_v hg_8
  obtain rfl : w2 = (.int i2) := Option.some.inj ei2
  obtain ⟨i3, ei3⟩ := is_v hg_9
  obtain rfl : w3 = (.int i3) := Option.some.inj ei3
  obtain ⟨hn_2, hn_3⟩ := and_e hn
  obtain ⟨hn_4, hn_5⟩ := and_e hn_3
  obtain ⟨hn_6, hn_7⟩ := and_e hn_5
  obtain ⟨hn_8, hn_9⟩ := and_e hn_7
  obtain ⟨hn_10, hn_11⟩ := and_e hn_9
  obtain ⟨hn_12, hn_13⟩ := and_e hn_11
  obtain ⟨hn_14, hn_15⟩ := and_e hn_13
  obtain ⟨hn_16, hn_17⟩ := and_e hn_15
  obtain ⟨hn_18, hn_19⟩ := and_e hn_17
  obtain ⟨hn_20, hn_21⟩ := and_e hn_19
  obtain ⟨hn_22, hn_23⟩ := and_e hn_21
  obtain ⟨w_EQUAL, ev_EQUAL⟩ := exa_v hn_2
  have E_EQUAL : Exa s s.heap w_EQUAL "com/example/reckonmill/reckonmill/lib/model/tree/Comparison" := Exa.start ev_EQUAL hn_2
  have S_EQUAL : Sta s s.heap "com/example/reckonmill/reckonmill/lib/model/tree/Comparison" "EQUAL" "Lcom/example/reckonmill/reckonmill/lib/model/tree/Comparison;" (.ref w_EQUAL) := Sta.start ev_EQUAL (Or.inr ⟨(ow6 hw), (ow7 hw)⟩)
  obtain ⟨w_NOT_EQUAL, ev_NOT_EQUAL⟩ := exa_v hn_6
  have E_NOT_EQUAL : Exa s s.heap w_NOT_EQUAL "com/example/reckonmill/reckonmill/lib/model/tree/Comparison" := Exa.start ev_NOT_EQUAL hn_6
  have S_NOT_EQUAL : Sta s s.heap "com/example/reckonmill/reckonmill/lib/model/tree/Comparison" "NOT_EQUAL" "Lcom/example/reckonmill/reckonmill/lib/model/tree/Comparison;" (.ref w_NOT_EQUAL) := Sta.start ev_NOT_EQUAL (Or.inr ⟨(ow6 hw), (ow26 hw)⟩)
  obtain ⟨w_GREATER, ev_GREATER⟩ := exa_v hn_10
  have E_GREATER : Exa s s.heap w_GREATER "com/example/reckonmill/reckonmill/lib/model/tree/Comparison" := Exa.start ev_GREATER hn_10
  have S_GREATER : Sta s s.heap "com/example/reckonmill/reckonmill/lib/model/tree/Comparison" "GREATER" "Lcom/example/reckonmill/reckonmill/lib/model/tree/Comparison;" (.ref w_GREATER) := Sta.start ev_GREATER (Or.inr ⟨(ow6 hw), (ow28 hw)⟩)
  obtain ⟨w_LESS_OR_EQUAL, ev_LESS_OR_EQUAL⟩ := exa_v hn_14
  have E_LESS_OR_EQUAL : Exa s s.heap w_LESS_OR_EQUAL "com/example/reckonmill/reckonmill/lib/model/tree/Comparison" := Exa.start ev_LESS_OR_EQUAL hn_14
  have S_LESS_OR_EQUAL : Sta s s.heap "com/example/reckonmill/reckonmill/lib/model/tree/Comparison" "LESS_OR_EQUAL" "Lcom/example/reckonmill/reckonmill/lib/model/tree/Comparison;" (.ref w_LESS_OR_EQUAL) := Sta.start ev_LESS_OR_EQUAL (Or.inr ⟨(ow6 hw), (ow30 hw)⟩)
  obtain ⟨w_GREATER_OR_EQUAL, ev_GREATER_OR_EQUAL⟩ := exa_v hn_18
  have E_GREATER_OR_EQUAL : Exa s s.heap w_GREATER_OR_EQUAL "com/example/reckonmill/reckonmill/lib/model/tree/Comparison" := Exa.start ev_GREATER_OR_EQUAL hn_18
  have S_GREATER_OR_EQUAL : Sta s s.heap "com/example/reckonmill/reckonmill/lib/model/tree/Comparison" "GREATER_OR_EQUAL" "Lcom/example/reckonmill/reckonmill/lib/model/tree/Comparison;" (.ref w_GREATER_OR_EQUAL) := Sta.start ev_GREATER_OR_EQUAL (Or.inr ⟨(ow6 hw), (ow32 hw)⟩)
  obtain ⟨w_LESS, ev_LESS⟩ := exa_v hn_22
  have E_LESS : Exa s s.heap w_LESS "com/example/reckonmill/reckonmill/lib/model/tree/Comparison" := Exa.start ev_LESS hn_22
  have S_LESS : Sta s s.heap "com/example/reckonmill/reckonmill/lib/model/tree/Comparison" "LESS" "Lcom/example/reckonmill/reckonmill/lib/model/tree/Comparison;" (.ref w_LESS) := Sta.start ev_LESS (Or.inr ⟨(ow6 hw), (ow34 hw)⟩)
  have O_EQUAL : Fld s s.heap w_EQUAL "java/lang/Enum" "ordinal" "I" (.int (0 : Int32)) := own_fld_of ev_EQUAL hn_4
  have O_NOT_EQUAL : Fld s s.heap w_NOT_EQUAL "java/lang/Enum" "ordinal" "I" (.int (1 : Int32)) := own_fld_of ev_NOT_EQUAL hn_8
  have O_GREATER : Fld s s.heap w_GREATER "java/lang/Enum" "ordinal" "I" (.int (4 : Int32)) := own_fld_of ev_GREATER hn_12
  have O_LESS_OR_EQUAL : Fld s s.heap w_LESS_OR_EQUAL "java/lang/Enum" "ordinal" "I" (.int (3 : Int32)) := own_fld_of ev_LESS_OR_EQUAL hn_16
  have O_GREATER_OR_EQUAL : Fld s s.heap w_GREATER_OR_EQUAL "java/lang/Enum" "ordinal" "I" (.int (5 : Int32)) := own_fld_of ev_GREATER_OR_EQUAL hn_20
  have O_LESS : Fld s s.heap w_LESS "java/lang/Enum" "ordinal" "I" (.int (2 : Int32)) := own_fld_of ev_LESS hn_23
  obtain ⟨n, o, h1, h2, h3, _, L, rfl, ⟨rfl, N⟩, hq⟩ := rm0 l s _ hw tables_1 i0 i1 i2 i3 w_EQUAL w_NOT_EQUAL w_LESS w_LESS_OR_EQUAL w_GREATER w_GREATER_OR_EQUAL s.heap s.heap.size (Nat.le_refl _) S_EQUAL S_NOT_EQUAL S_LESS S_LESS_OR_EQUAL S_GREATER S_GREATER_OR_EQUAL E_EQUAL E_NOT_EQUAL E_LESS E_LESS_OR_EQUAL E_GREATER E_GREATER_OR_EQUAL O_EQUAL O_NOT_EQUAL O_LESS O_LESS_OR_EQUAL O_GREATER O_GREATER_OR_EQUAL p e ha hc hk s m _ below hf ((Spec.applies_iff_loose hf).mp happ).1 ⟨rfl, State.Warmed39.refl s, rfl⟩ trivial
  refine ⟨n, _, h1, h2, h3, hpost _ _ _ _ _ _ ⟨Cond.after_iff.mpr rfl, Cond.after_iff.mpr (eq_i res_at (Term.int_eval (1)) rfl), trivial⟩ ⟨hq.1, hq.2.1, (hq.2.2.sift fun y hy => Or.inr (N y hy)).mono (by decide) (by decide)⟩⟩
theorem main_1_1 : Claimed_1_1 := comes_1 fun _ _ _ _ _ _ h hF => ⟨h.1, hF⟩
theorem main_1_2 : Claimed_1_2 := comes_1 fun _ _ _ _ _ _ h hF => ⟨h.2.1, hF⟩
end Jvm.Pilot.@@N@@
namespace Jvm.Pilot.@@N@@
open Jvm Jvm.ClassFile Sem Op Lib Jvm.Free Jvm.Stand Jvm.Pilot.@@N@@.Jvm.D
/-! MADE BY PROGRAM (witnessworld.py) out of the Statement's table words and the real class files: 12 classes; the members and pool entries that the words name. The judged class is class 1, her method 3. -/
namespace start1
open Jvm.ClassFile
def u (s : String) : CpInfo := .utf8 (stringToUtf16 s)
/-- a pool by its gaps: so many unusable entries, then the entry; so many at the end -/
def gap : Nat → List CpInfo → List CpInfo
  | 0, r => r
  | n + 1, r => .unusable :: gap n r
def poolList (es : List (Nat × CpInfo)) (last : Nat) : List CpInfo := es.foldr (fun e r => gap e.1 (e.2 :: r)) (gap last [])
def pool (es : List (Nat × CpInfo)) (last : Nat) : Array CpInfo := ⟨poolList es last⟩
def fileOf (pool : Array CpInfo) (this : Nat) (attrs : Array Attribute := #[]) (ms : Array MethodInfo := #[]) (fl : Nat := 33) (sup : Nat := 0) (ifs : Array Nat := #[]) (fds : Array FieldInfo := #[]) : ClassFile where
  minorVersion := 0
  majorVersion := 65
  constantPool := pool
  accessFlags := fl
  thisClass := this
  superClass := sup
  interfaces := ifs
  fields := fds
  methods := ms
  attributes := attrs
def plain (name : String) (sup : Option ClassId) : Class where
  name := name
  kind := .ordinary
  loader := none
  accessFlags := 33
  super := sup
  interfaces := #[]
  cf := none
  fields := #[]
  methods := #[]
  instanceTypes := #[]
  staticTypes := #[]
  resolved := #[]
  callSites := []
  init := .initialized
  statics := none
  mirror := none

def pool0 : Array CpInfo := pool [(5, u "<init>"), (0, u "()V"), (1, .class_ 10), (1, u "java/lang/Object")] 113

def k0m0 : Method := { name := "<init>", desc := "()V", sig := { parameters := [], returnType := none }, accessFlags := 1, code := none }
/-- java/lang/Object -/
def k0 : Class := { plain "java/lang/Object" none with
  accessFlags := 33
  interfaces := #[]
  cf := some (fileOf pool0 8 #[] #[{ accessFlags := 1, nameIndex := 5, descriptorIndex := 6, attributes := #[] }] 33 0 #[] #[])
  fields := #[]
  methods := #[k0m0]
  instanceTypes := #[]
  staticTypes := #[]
  resolved := Array.replicate 124 none
  statics := none }

def pool1 : Array CpInfo := pool [(2, .class_ 4), (1, u "java/lang/Object"), (0, u "<init>"), (0, u "()V"), (0, .fieldref 8 9), (0, .class_ 10), (0, .nameAndType 11 12), (0, u "com/example/reckonmill/reckonmill/lib/model/tree/Comparison"), (0, u "EQUAL"), (0, u "Lcom/example/reckonmill/reckonmill/lib/model/tree/Comparison;"), (0, .fieldref 8 14), (0, .nameAndType 15 12), (0, u "NOT_EQUAL"), (0, .fieldref 8 17), (0, .nameAndType 18 12), (0, u "LESS"), (0, .fieldref 8 20), (0, .nameAndType 21 12), (0, u "LESS_OR_EQUAL"), (0, .fieldref 8 23), (0, .nameAndType 24 12), (0, u "GREATER"), (0, .fieldref 8 26), (0, .nameAndType 27 12), (0, u "GREATER_OR_EQUAL"), (0, .integer 2147483647), (0, .methodref 30 31), (0, .class_ 32), (0, .nameAndType 33 34), (0, u "com/example/reckonmill/reckonmill/lib/model/tree/ComparisonHoldsPinLaw"), (0, u "pick"), (0, u "(I)Lcom/example/reckonmill/reckonmill/lib/model/tree/Comparison;"), (0, .methodref 8 36), (0, .nameAndType 37 38), (0, u "holds"), (0, u "(DD)Z"), (0, .methodref 30 40), (0, .nameAndType 41 42), (0, u "expected"), (0, u "(II)Z"), (3, u "law"), (0, u "(IIII)Z")] 2

def k1m0 : Method := { name := "<init>", desc := "()V", sig := { parameters := [], returnType := none }, accessFlags := 1, code := none }
def k1c1 : Code := { maxStack := 2, maxLocals := 1, code := method_2_code, exceptionTable := #[], attributes := #[] }
def k1m1 : Method := { name := "pick", desc := "(I)Lcom/example/reckonmill/reckonmill/lib/model/tree/Comparison;", sig := { parameters := [.int], returnType := some (.object "com/example/reckonmill/reckonmill/lib/model/tree/Comparison") }, accessFlags := 10, code := some k1c1 }
def k1c2 : Code := { maxStack := 2, maxLocals := 2, code := method_3_code, exceptionTable := #[], attributes := #[] }
def k1m2 : Method := { name := "expected", desc := "(II)Z", sig := { parameters := [.int, .int], returnType := some .boolean }, accessFlags := 10, code := some k1c2 }
def k1c3 : Code := { maxStack := 5, maxLocals := 10, code := code, exceptionTable := #[], attributes := #[] }
def k1m3 : Method := { name := "law", desc := "(IIII)Z", sig := { parameters := [.int, .int, .int, .int], returnType := some .boolean }, accessFlags := 9, code := some k1c3 }
/-- com/example/reckonmill/reckonmill/lib/model/tree/ComparisonHoldsPinLaw -/
def k1 : Class := { plain "com/example/reckonmill/reckonmill/lib/model/tree/ComparisonHoldsPinLaw" (some 0) with
  accessFlags := 49
  interfaces := #[]
  cf := some (fileOf pool1 30 #[] #[{ accessFlags := 1, nameIndex := 5, descriptorIndex := 6, attributes := #[] }, { accessFlags := 10, nameIndex := 33, descriptorIndex := 34, attributes := #[] }, { accessFlags := 10, nameIndex := 41, descriptorIndex := 42, attributes := #[] }, { accessFlags := 9, nameIndex := 46, descriptorIndex := 47, attributes := #[] }] 49 2 #[] #[])
  fields := #[]
  methods := #[k1m0, k1m1, k1m2, k1m3]
  instanceTypes := #[]
  staticTypes := #[]
  resolved := Array.replicate 50 none
  statics := none }

def pool2 : Array CpInfo := pool [(1, .class_ 2), (0, u "java/lang/constant/Constable"), (0, .class_ 4), (0, u "java/lang/Object")] 6

/-- java/lang/constant/Constable -/
def k2 : Class := { plain "java/lang/constant/Constable" (some 0) with
  accessFlags := 1537
  interfaces := #[]
  cf := some (fileOf pool2 1 #[] #[] 1537 3 #[] #[])
  fields := #[]
  methods := #[]
  instanceTypes := #[]
  staticTypes := #[]
  resolved := Array.replicate 11 none
  statics := none }

def pool3 : Array CpInfo := pool [(1, .class_ 2), (0, u "java/lang/Comparable"), (0, .class_ 4), (0, u "java/lang/Object")] 7

/-- java/lang/Comparable -/
def k3 : Class := { plain "java/lang/Comparable" (some 0) with
  accessFlags := 1537
  interfaces := #[]
  cf := some (fileOf pool3 1 #[] #[] 1537 3 #[] #[])
  fields := #[]
  methods := #[]
  instanceTypes := #[]
  staticTypes := #[]
  resolved := Array.replicate 12 none
  statics := none }

def pool4 : Array CpInfo := pool [(1, .class_ 2), (0, u "java/io/Serializable"), (0, .class_ 4), (0, u "java/lang/Object")] 2

/-- java/io/Serializable -/
def k4 : Class := { plain "java/io/Serializable" (some 0) with
  accessFlags := 1537
  interfaces := #[]
  cf := some (fileOf pool4 1 #[] #[] 1537 3 #[] #[])
  fields := #[]
  methods := #[]
  instanceTypes := #[]
  staticTypes := #[]
  resolved := Array.replicate 7 none
  statics := none }

def pool5 : Array CpInfo := pool [(2, .class_ 4), (1, u "java/lang/Enum"), (0, u "name"), (0, u "Ljava/lang/String;"), (0, .fieldref 2 8), (0, .nameAndType 9 10), (0, u "ordinal"), (0, u "I"), (1, .class_ 14), (1, u "java/lang/Object"), (4, u "hash"), (86, .class_ 108), (1, u "java/lang/Enum$EnumDesc"), (2, .class_ 112), (0, u "java/lang/constant/Constable"), (0, .class_ 114), (0, u "java/lang/Comparable"), (0, .class_ 116), (0, u "java/io/Serializable"), (9, u "()I")] 77

def k5c0 : Code := { maxStack := 1, maxLocals := 1, code := jdk_37_method_2_code, exceptionTable := #[], attributes := #[] }
def k5m0 : Method := { name := "ordinal", desc := "()I", sig := { parameters := [], returnType := some .int }, accessFlags := 17, code := some k5c0 }
/-- java/lang/Enum -/
def k5 : Class := { plain "java/lang/Enum" (some 0) with
  accessFlags := 1057
  interfaces := #[2, 3, 4]
  cf := some (fileOf pool5 2 #[.nestMembers #[106]] #[{ accessFlags := 17, nameIndex := 9, descriptorIndex := 126, attributes := #[] }] 1057 12 #[111, 113, 115] #[{ accessFlags := 18, nameIndex := 5, descriptorIndex := 6, attributes := #[] }, { accessFlags := 18, nameIndex := 9, descriptorIndex := 10, attributes := #[] }, { accessFlags := 2, nameIndex := 19, descriptorIndex := 10, attributes := #[] }])
  fields := #[{ name := "name", type := (.object "java/lang/String"), accessFlags := 18, slot := 0, constantValue := 0 }, { name := "ordinal", type := .int, accessFlags := 18, slot := 1, constantValue := 0 }, { name := "hash", type := .int, accessFlags := 2, slot := 2, constantValue := 0 }]
  methods := #[k5m0]
  instanceTypes := #[(.object "java/lang/String"), .int, .int]
  staticTypes := #[]
  resolved := Array.replicate 204 none
  statics := none }

def pool6 : Array CpInfo := pool [(1, .class_ 2), (0, u "com/example/reckonmill/reckonmill/lib/model/tree/Comparison"), (2, u "EQUAL"), (0, u "Lcom/example/reckonmill/reckonmill/lib/model/tree/Comparison;"), (2, u "NOT_EQUAL"), (2, u "LESS"), (2, u "LESS_OR_EQUAL"), (2, u "GREATER"), (2, u "GREATER_OR_EQUAL"), (2, u "$VALUES"), (0, u "[Lcom/example/reckonmill/reckonmill/lib/model/tree/Comparison;"), (6, .class_ 34), (1, u "java/lang/Enum"), (8, u "operator"), (0, u "Ljava/lang/String;"), (2, u "BY_OPERATOR"), (0, u "Ljava/util/Map;"), (12, .methodref 1 62), (0, .nameAndType 63 64), (0, u "ordinal"), (0, u "()I"), (65, u "holds"), (2, u "(DD)Z")] 26

def k6c0 : Code := { maxStack := 4, maxLocals := 6, code := prog_17_method_6_code, exceptionTable := #[], attributes := #[] }
def k6m0 : Method := { name := "holds", desc := "(DD)Z", sig := { parameters := [.double, .double], returnType := some .boolean }, accessFlags := 0, code := some k6c0 }
/-- com/example/reckonmill/reckonmill/lib/model/tree/Comparison -/
def k6 : Class := { plain "com/example/reckonmill/reckonmill/lib/model/tree/Comparison" (some 5) with
  accessFlags := 16432
  interfaces := #[]
  cf := some (fileOf pool6 1 #[] #[{ accessFlags := 0, nameIndex := 130, descriptorIndex := 133, attributes := #[] }] 16432 32 #[] #[{ accessFlags := 16409, nameIndex := 5, descriptorIndex := 6, attributes := #[] }, { accessFlags := 16409, nameIndex := 9, descriptorIndex := 6, attributes := #[] }, { accessFlags := 16409, nameIndex := 12, descriptorIndex := 6, attributes := #[] }, { accessFlags := 16409, nameIndex := 15, descriptorIndex := 6, attributes := #[] }, { accessFlags := 16409, nameIndex := 18, descriptorIndex := 6, attributes := #[] }, { accessFlags := 16409, nameIndex := 21, descriptorIndex := 6, attributes := #[] }, { accessFlags := 26, nameIndex := 47, descriptorIndex := 48, attributes := #[] }, { accessFlags := 18, nameIndex := 43, descriptorIndex := 44, attributes := #[] }, { accessFlags := 4122, nameIndex := 24, descriptorIndex := 25, attributes := #[] }])
  fields := #[{ name := "EQUAL", type := (.object "com/example/reckonmill/reckonmill/lib/model/tree/Comparison"), accessFlags := 16409, slot := 0, constantValue := 0 }, { name := "NOT_EQUAL", type := (.object "com/example/reckonmill/reckonmill/lib/model/tree/Comparison"), accessFlags := 16409, slot := 1, constantValue := 0 }, { name := "LESS", type := (.object "com/example/reckonmill/reckonmill/lib/model/tree/Comparison"), accessFlags := 16409, slot := 2, constantValue := 0 }, { name := "LESS_OR_EQUAL", type := (.object "com/example/reckonmill/reckonmill/lib/model/tree/Comparison"), accessFlags := 16409, slot := 3, constantValue := 0 }, { name := "GREATER", type := (.object "com/example/reckonmill/reckonmill/lib/model/tree/Comparison"), accessFlags := 16409, slot := 4, constantValue := 0 }, { name := "GREATER_OR_EQUAL", type := (.object "com/example/reckonmill/reckonmill/lib/model/tree/Comparison"), accessFlags := 16409, slot := 5, constantValue := 0 }, { name := "BY_OPERATOR", type := (.object "java/util/Map"), accessFlags := 26, slot := 6, constantValue := 0 }, { name := "operator", type := (.object "java/lang/String"), accessFlags := 18, slot := 3, constantValue := 0 }, { name := "$VALUES", type := (.array (.object "com/example/reckonmill/reckonmill/lib/model/tree/Comparison")), accessFlags := 4122, slot := 7, constantValue := 0 }]
  methods := #[k6m0]
  instanceTypes := #[(.object "java/lang/String"), .int, .int, (.object "java/lang/String")]
  staticTypes := #[(.object "com/example/reckonmill/reckonmill/lib/model/tree/Comparison"), (.object "com/example/reckonmill/reckonmill/lib/model/tree/Comparison"), (.object "com/example/reckonmill/reckonmill/lib/model/tree/Comparison"), (.object "com/example/reckonmill/reckonmill/lib/model/tree/Comparison"), (.object "com/example/reckonmill/reckonmill/lib/model/tree/Comparison"), (.object "com/example/reckonmill/reckonmill/lib/model/tree/Comparison"), (.object "java/util/Map"), (.array (.object "com/example/reckonmill/reckonmill/lib/model/tree/Comparison"))]
  resolved := Array.replicate 160 none
  statics := some 0 }

def pool7 : Array CpInfo := pool [(1, u "java/lang/Cloneable"), (0, .class_ 1), (0, u "java/lang/Object"), (0, .class_ 3)] 3

/-- java/lang/Cloneable -/
def k7 : Class := { plain "java/lang/Cloneable" (some 0) with
  accessFlags := 1537
  interfaces := #[]
  cf := some (fileOf pool7 2 #[] #[] 1537 4 #[] #[])
  fields := #[]
  methods := #[]
  instanceTypes := #[]
  staticTypes := #[]
  resolved := Array.replicate 8 none
  statics := none }

/-- the primitive byte -/
def k8 : Class := { plain "byte" none with kind := .primitive 'B', accessFlags := 0x411 }
/-- [B -/
def k9 : Class := { plain "[B" (some 0) with kind := .array 8 .byte, interfaces := #[7, 4], accessFlags := 1041 }

/-- the primitive int -/
def k10 : Class := { plain "int" none with kind := .primitive 'I', accessFlags := 0x411 }
/-- [I -/
def k11 : Class := { plain "[I" (some 0) with kind := .array 10 .int, interfaces := #[7, 4], accessFlags := 1041 }

def heap : Heap := #[{ cls := 6, slots := #[.ref 1, .ref 2, .ref 6, .ref 4, .ref 3, .ref 5, .null, .null], vm := .statics 6 },
  { cls := 6, slots := #[.null, .int 0, .int 0, .null], vm := .none },
  { cls := 6, slots := #[.null, .int 1, .int 0, .null], vm := .none },
  { cls := 6, slots := #[.null, .int 4, .int 0, .null], vm := .none },
  { cls := 6, slots := #[.null, .int 3, .int 0, .null], vm := .none },
  { cls := 6, slots := #[.null, .int 5, .int 0, .null], vm := .none },
  { cls := 6, slots := #[.null, .int 2, .int 0, .null], vm := .none }]
def classes : Array Class := #[k0, k1, k2, k3, k4, k5, k6, k7, k8, k9, k10, k11]
def interned : List (Array UInt16 × Addr) := []
def slotsUsed : Nat := 32
def theMethod : MethodId := ⟨1, 3⟩
def args0 : Array Value := #[.int 3, .int 3, .int 3, .int 3]
def aboutOver (below : List Frame) : State where
  vm := { classes := classes, interned := interned.toArray }
  heap := heap
  slotsUsed := slotsUsed
  threads := #[{ frames := .invoking theMethod args0 :: below }]
def below0 : List Frame := [.native { method := ⟨0, 0⟩, args := #[] }]
def about1 : State := aboutOver below0
def p0 : Program := .bare "" "" ""
def e0 : Env := launch0.env 0 0 0
theorem w_frames : about1.frames = Frame.invoking theMethod args0 :: below0 := rfl
set_option maxRecDepth 65536 in
theorem w_args : argsFit about1.vm theMethod args0 = true := by decide +kernel
set_option maxRecDepth 65536 in
theorem w_heap : heapFits about1 = true := by decide +kernel
set_option maxRecDepth 65536 in
theorem w_runnable : about1.curStatus? = some .runnable := by decide +kernel
set_option maxRecDepth 65536 in
theorem w_alone : about1.alone = true := by decide +kernel
set_option maxRecDepth 65536 in
theorem w_named : about1.methodNamed? x = some theMethod := by decide +kernel
set_option maxRecDepth 65536 in
theorem w_hears : about1.hears theMethod below0 = true := by decide +kernel
set_option maxRecDepth 65536 in
theorem w_ripe : about1.ripe theMethod args0 below0 = true := by decide +kernel
theorem w_running : about1.status = .running := rfl
set_option maxRecDepth 65536 in
theorem w_room : about1.hasRoom e0.platform room_1 = true :=
  launch0.hasRoom_least _ room_1 (by decide +kernel) (by decide +kernel) (by decide +kernel) (by decide +kernel) (by decide +kernel) (by decide +kernel)
theorem allAtoms_all (ts : List Jvm.Cond) (a : Array Jvm.Value) (st : Jvm.State) : (allAtoms ts).before a st = ts.all (fun c => c.before a st) := by
  induction ts with
  | nil => rfl
  | cons c t ih =>
    show (Jvm.Cond.and c (allAtoms t)).before a st = _
    rw [Jvm.Cond.before_and, ih, List.all_cons]
def words1 : List Jvm.Cond := Jvm.Cond.code x code maxLocals ret :: tables_1
/-- a 'code' word, met by the world's own term for the bytes: nothing is compared byte by byte -/
theorem code_word {y : MethodName} {bytes : ByteArray} {mx : Nat} {rt : Option FieldType} {a : Array Value} {s : State} {m : MethodId} {meth : Method} {c : Code} (h1 : s.methodNamed? y = some m) (h2 : s.vm.method? m = some meth) (h3 : meth.code = some c) (h4 : c.code = bytes)
    (h5 : (c.maxLocals == mx && c.exceptionTable.isEmpty && decide (c.maxStack ≤ mostOperands) && decide (meth.sig.returnType = rt) && !meth.locks && decide (parseMethodDescriptor y.desc = some meth.sig)) = true) : (Jvm.Cond.code y bytes mx rt).before a s = true := by
  simp only [Bool.and_eq_true, beq_iff_eq, Bool.not_eq_true', decide_eq_true_eq] at h5
  obtain ⟨⟨⟨⟨⟨g1, g2⟩, g3⟩, g4⟩, g5⟩, g6⟩ := h5
  simp [Cond.before, Cond.holds, Cond.value, h1, h2, h3, h4, g1, g2, g3, g4, g5, g6]
def isCode : Jvm.Cond → Bool
  | .code _ _ _ _ => true
  | _ => false
theorem all_split {L : List Jvm.Cond} {P : Jvm.Cond → Bool} (h1 : L.all (fun c => isCode c || P c) = true) (h2 : ∀ c ∈ L.filter isCode, P c = true) : L.all P = true := by
  refine List.all_eq_true.mpr fun c hc => ?_
  have h := List.all_eq_true.mp h1 c hc
  rcases Bool.eq_false_or_eq_true (isCode c) with hi | hi
  · exact h2 c (List.mem_filter.mpr ⟨hc, hi⟩)
  · simpa [hi] using h
set_option maxRecDepth 65536 in
theorem w_c0 : (Jvm.Cond.code x code maxLocals ret).before args0 about1 = true := code_word (m := ⟨1, 3⟩) (meth := k1m3) (c := k1c3) (by decide +kernel) rfl rfl rfl (by decide +kernel)
set_option maxRecDepth 65536 in
theorem w_c1 : (Jvm.Cond.code ({ cls := "com/example/reckonmill/reckonmill/lib/model/tree/ComparisonHoldsPinLaw", name := "pick", desc := "(I)Lcom/example/reckonmill/reckonmill/lib/model/tree/Comparison;" } : Jvm.MethodName) method_2_code (1 : Nat) (Option.some (Jvm.ClassFile.FieldType.object "com/example/reckonmill/reckonmill/lib/model/tree/Comparison"))).before args0 about1 = true := code_word (m := ⟨1, 1⟩) (meth := k1m1) (c := k1c1) (by decide +kernel) rfl rfl rfl (by decide +kernel)
set_option maxRecDepth 65536 in
theorem w_c2 : (Jvm.Cond.code ({ cls := "com/example/reckonmill/reckonmill/lib/model/tree/Comparison", name := "holds", desc := "(DD)Z" } : Jvm.MethodName) prog_17_method_6_code (6 : Nat) (Option.some Jvm.ClassFile.FieldType.boolean)).before args0 about1 = true := code_word (m := ⟨6, 0⟩) (meth := k6m0) (c := k6c0) (by decide +kernel) rfl rfl rfl (by decide +kernel)
set_option maxRecDepth 65536 in
theorem w_c3 : (Jvm.Cond.code ({ cls := "java/lang/Enum", name := "ordinal", desc := "()I" } : Jvm.MethodName) jdk_37_method_2_code (1 : Nat) (Option.some Jvm.ClassFile.FieldType.int)).before args0 about1 = true := code_word (m := ⟨5, 0⟩) (meth := k5m0) (c := k5c0) (by decide +kernel) rfl rfl rfl (by decide +kernel)
set_option maxRecDepth 65536 in
theorem w_c4 : (Jvm.Cond.code ({ cls := "com/example/reckonmill/reckonmill/lib/model/tree/ComparisonHoldsPinLaw", name := "expected", desc := "(II)Z" } : Jvm.MethodName) method_3_code (2 : Nat) (Option.some Jvm.ClassFile.FieldType.boolean)).before args0 about1 = true := code_word (m := ⟨1, 2⟩) (meth := k1m2) (c := k1c2) (by decide +kernel) rfl rfl rfl (by decide +kernel)
def codes1 : List Jvm.Cond := [Jvm.Cond.code x code maxLocals ret, Jvm.Cond.code ({ cls := "com/example/reckonmill/reckonmill/lib/model/tree/ComparisonHoldsPinLaw", name := "pick", desc := "(I)Lcom/example/reckonmill/reckonmill/lib/model/tree/Comparison;" } : Jvm.MethodName) method_2_code (1 : Nat) (Option.some (Jvm.ClassFile.FieldType.object "com/example/reckonmill/reckonmill/lib/model/tree/Comparison")), Jvm.Cond.code ({ cls := "com/example/reckonmill/reckonmill/lib/model/tree/Comparison", name := "holds", desc := "(DD)Z" } : Jvm.MethodName) prog_17_method_6_code (6 : Nat) (Option.some Jvm.ClassFile.FieldType.boolean), Jvm.Cond.code ({ cls := "java/lang/Enum", name := "ordinal", desc := "()I" } : Jvm.MethodName) jdk_37_method_2_code (1 : Nat) (Option.some Jvm.ClassFile.FieldType.int), Jvm.Cond.code ({ cls := "com/example/reckonmill/reckonmill/lib/model/tree/ComparisonHoldsPinLaw", name := "expected", desc := "(II)Z" } : Jvm.MethodName) method_3_code (2 : Nat) (Option.some Jvm.ClassFile.FieldType.boolean)]
set_option maxRecDepth 65536 in
theorem codes_eq : words1.filter isCode = codes1 := rfl
theorem w_codes : ∀ c ∈ words1.filter isCode, c.before args0 about1 = true := by
  rw [codes_eq]
  intro c hc
  simp only [codes1, List.mem_cons, List.not_mem_nil, or_false] at hc
  rcases hc with rfl | rfl | rfl | rfl | rfl
  · exact w_c0
  · exact w_c1
  · exact w_c2
  · exact w_c3
  · exact w_c4
set_option maxRecDepth 65536 in
theorem w_t1 : (words1.take 24).all (fun c => isCode c || c.before args0 about1) = true := by decide +kernel
set_option maxRecDepth 65536 in
theorem w_t2 : (words1.drop 24).all (fun c => isCode c || c.before args0 about1) = true := by decide +kernel
theorem w_tables : (allAtoms (Jvm.Cond.code x code maxLocals ret :: tables_1)).before args0 about1 = true := by
  rw [allAtoms_all]
  show words1.all (fun c => c.before args0 about1) = true
  refine all_split ?_ w_codes
  rw [← List.take_append_drop 24 words1, List.all_append, w_t1, w_t2]
  rfl
set_option maxRecDepth 65536 in
theorem w_case : (Jvm.Cond.and given_1 narrow_1).before args0 about1 = true := by decide +kernel
theorem w_applies : (headSpec (Jvm.Cond.code x code maxLocals ret :: tables_1) room_1).applies x e0.platform about1 = true :=
  (Spec.applies_iff w_frames).mpr ⟨w_running, w_runnable, w_alone, w_named, w_hears, w_ripe, w_room, w_tables⟩
theorem atStart : AtStart classFile x code maxLocals ret World_1 tables_1 room_1 Calls_1 rest_1 Pre_1 launch0 p0 e0 about1 theMethod args0 below0 :=
  ⟨lists_1, trivial, launch0.admits_env _ _ _, launch0.least_env, fairChoices_fair.cas, fairChoices_fair.clock, w_frames, w_args, w_heap, w_applies, trivial, trivial, w_case⟩
end start1
theorem witness_1 : WitnessClaimed_1 := ⟨start1.p0, start1.e0, start1.about1, start1.theMethod, start1.args0, start1.below0, start1.atStart⟩
end Jvm.Pilot.@@N@@
