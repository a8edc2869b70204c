import JvmDerived
import JvmDerived.Pilot.@@N@@Statement
import JvmDerived.Pilot.@@N@@Code
set_option linter.unusedVariables false
set_option linter.unusedSimpArgs false
namespace Jvm.RoadKit
open Sem ClassFile Op Lib Jvm.Stand Jvm.Free Jvm.LawKit
section New
variable {p : Program} {l : Launch} {e : Env} {R : Room} {s : State} {m : MethodId} {args : Array Value} {below : List Frame} {meth : Method} {c : Code} {T : State} {locs : List Loc} {cells slots : Nat}
theorem retI (X : Stand p l e R s m args below meth c T locs cells slots) (hx : p.tables.exec = Jvm.exec) {pc : Nat} {Ls : Array Slot} {z : Int32} {rest : List Value} (hret : meth.sig.returnType = some .int) (hd : decode c.code pc = .ok (.ireturn, 1)) {fs : List Frame}
    (hl : ∀ (f : JFrame) (acts : List Action), f.method = m → f.locked = none → f.entered = [] → (doReturn e (T.setTop f) acts (some (.int z))).1 = T.setFrames fs) : Steps p.tables e below (T.setTop (mkF m pc Ls (.int z :: rest))) (T.setFrames fs) := by
  have hm' : T.vm.method? m = some meth := X.method'
  have hn : narrow .int (.int z) = .int z := rfl
  show Steps p.tables e below (T.setTop { method := m, pc := pc, locals := Ls, stack := _ :: rest, locked := none }) _
  jvm_step X.here [X.here.top, hx, hd, hm', hret, hn]
  first | (intro acts; rw [hl _ acts rfl rfl rfl]) | rw [hl _ _ rfl rfl rfl]
  exact Steps.refl _
end New
end Jvm.RoadKit
namespace Jvm.Pilot.@@N@@
open Jvm Jvm.ClassFile Sem Op Lib Jvm.Free Jvm.Stand Jvm.LawKit Jvm.RoadKit Bundle Jvm.Pilot.@@N@@.Jvm.D
section Own
variable {p : Program} {l : Launch} {e : Env} {R : Room} {s : State} {m : MethodId} {args : Array Value} {below : List Frame} {meth : Method} {c : Code} {T T' : State} {locs : List Loc} {cells slots cc nn : Nat} {f f' : JFrame} {Q : Option Value → Heap → List Loc → Prop} {Z : State} {h h' : Heap} {ws : List Addr}
/-- from this state the body comes to its end, and what it leaves is as Q says -/
def own_Ends (p : Program) (e : Env) (below : List Frame) (s : State) (Q : Option Value → Heap → List Loc → Prop) (cc nn : Nat) (T : State) (f : JFrame) : Prop :=
  ∃ s₂ o, Steps p.tables e below (T.setTop f) s₂ ∧ s₂.status = .running ∧ Ended s₂ below o ∧ ∃ v L, o = .returned v ∧ Q v s₂.heap L ∧ FrameEnd s o s₂ L cc nn
theorem own_go (k : ∀ t, Steps p.tables e below (T'.setTop f') t → Steps p.tables e below (T.setTop f) t) (h : own_Ends p e below s Q cc nn T' f') : own_Ends p e below s Q cc nn T f := by
  obtain ⟨s₂, o, h1, h2⟩ := h
  exact ⟨s₂, o, k _ h1, h2⟩
theorem own_ret (X : Stand p l e R s m args below meth c T locs cells slots) {v : Option Value} (hv : meth.sig.returnType = none → v = none) (hlk : meth.locks = false)
    (st : ∀ fs, (∀ (f : JFrame) (acts : List Action), f.method = m → f.locked = none → f.entered = [] → (doReturn e (T.setTop f) acts v).1 = T.setFrames fs) → Steps p.tables e below (T.setTop f) (T.setFrames fs)) (hQ : Q v T.heap locs) (h1 : cells ≤ cc) (h2 : slots ≤ nn) :
    own_Ends p e below s Q cc nn T f := by
  obtain ⟨fs, hr, hrun, hended, hW, hsame⟩ := X.leave (v := v) hv hlk
  exact ⟨_, _, st fs hr, hrun, hended, _, _, rfl, hQ, ⟨_, rfl⟩, hW, hsame.mono h1 h2⟩
theorem own_retL (X : Stand p l e R s m args below meth c T locs cells slots) (hx : p.tables.exec = Jvm.exec) {pc : Nat} {Ls : Array Slot} {z : Int64} {rest : List Value} (hret : meth.sig.returnType = some .long) (hd : decode c.code pc = .ok (.lreturn, 1)) {fs : List Frame}
    (hl : ∀ (f : JFrame) (acts : List Action), f.method = m → f.locked = none → f.entered = [] → (doReturn e (T.setTop f) acts (some (.long z))).1 = T.setFrames fs) : Steps p.tables e below (T.setTop (mkF m pc Ls (.long z :: rest))) (T.setFrames fs) :=
  retOut X hx hret rfl (Or.inr (Or.inl ⟨rfl, rfl, _, rfl⟩)) hd hl
theorem own_retD (X : Stand p l e R s m args below meth c T locs cells slots) (hx : p.tables.exec = Jvm.exec) {pc : Nat} {Ls : Array Slot} {z : UInt64} {rest : List Value} (hret : meth.sig.returnType = some .double) (hd : decode c.code pc = .ok (.dreturn, 1)) {fs : List Frame}
    (hl : ∀ (f : JFrame) (acts : List Action), f.method = m → f.locked = none → f.entered = [] → (doReturn e (T.setTop f) acts (some (.double z))).1 = T.setFrames fs) : Steps p.tables e below (T.setTop (mkF m pc Ls (.double z :: rest))) (T.setFrames fs) :=
  retOut X hx hret rfl (Or.inr (Or.inr (Or.inl ⟨rfl, rfl, _, rfl⟩))) hd hl
theorem own_retA (X : Stand p l e R s m args below meth c T locs cells slots) (hx : p.tables.exec = Jvm.exec) {pc : Nat} {Ls : Array Slot} {w : Value} {t : FieldType} {rest : List Value} (hret : meth.sig.returnType = some t) (ht : t.isReference = true) (hw : w.isRef = true) (hd : decode c.code pc = .ok (.areturn, 1)) {fs : List Frame}
    (hl : ∀ (f : JFrame) (acts : List Action), f.method = m → f.locked = none → f.entered = [] → (doReturn e (T.setTop f) acts (some w)).1 = T.setFrames fs) : Steps p.tables e below (T.setTop (mkF m pc Ls (w :: rest))) (T.setFrames fs) :=
  retOut X hx hret (by cases t <;> first | rfl | (cases ht; done)) (Or.inr (Or.inr (Or.inr (Or.inr ⟨rfl, ht, hw⟩)))) hd hl
theorem own_lc_lt {a b : Int64} : lcmpW a b < 0 ↔ a < b := by
  simp only [lcmpW, gt_iff_lt]
  by_cases h1 : b < a
  · rw [if_pos h1]; exact ⟨fun q => absurd q (by decide), fun q => absurd q (by rw [Int64.lt_iff_toInt_lt] at *; omega)⟩
  · rw [if_neg h1]
    by_cases h2 : a = b
    · rw [if_pos h2]; exact ⟨fun q => absurd q (by decide), fun q => absurd q (by rw [h2, Int64.lt_iff_toInt_lt]; omega)⟩
    · rw [if_neg h2]; exact ⟨fun _ => by rw [Int64.lt_iff_toInt_lt] at *; rw [← Int64.toInt_inj] at h2; omega, fun _ => by decide⟩
theorem own_lc_eq {a b : Int64} : lcmpW a b = 0 ↔ a = b := by
  simp only [lcmpW, gt_iff_lt]
  by_cases h1 : b < a
  · rw [if_pos h1]; exact ⟨fun q => absurd q (by decide), fun q => absurd h1 (by rw [q, Int64.lt_iff_toInt_lt]; omega)⟩
  · rw [if_neg h1]
    by_cases h2 : a = b
    · rw [if_pos h2]; exact ⟨fun _ => h2, fun _ => rfl⟩
    · rw [if_neg h2]; exact ⟨fun q => absurd q (by decide), fun q => absurd q h2⟩
theorem own_lc_gt {a b : Int64} : 0 < lcmpW a b ↔ b < a := by
  simp only [lcmpW, gt_iff_lt]
  by_cases h1 : b < a
  · rw [if_pos h1]; exact ⟨fun _ => h1, fun _ => by decide⟩
  · rw [if_neg h1]
    by_cases h2 : a = b
    · rw [if_pos h2]; exact ⟨fun q => absurd q (by decide), fun q => absurd q h1⟩
    · rw [if_neg h2]; exact ⟨fun q => absurd q (by decide), fun q => absurd q h1⟩
section Arr
variable {target : State} {g : JFrame} {a : Addr} {kc : ClassId} {ty : FieldType} {z : Int32} {vs : List Value} {dv : Value}
theorem own_alen (X : Stand p l e R s m args below meth c T locs cells slots) (hx : p.tables.exec = Jvm.exec) (hZ : Z.Warmed39 s.vm) (eT : T.heap = h) (V : Arv Z h a kc ty z vs dv) (hg : g.method = m) {rest : List Value} (hs : g.stack = .ref a :: rest) (hd : decode c.code g.pc = .ok (.arraylength, 1))
    (hr : Steps p.tables e below (T.setTop { g with pc := g.pc + 1, stack := .int z :: rest }) target) : Steps p.tables e below (T.setTop g) target := by
  obtain ⟨cl, Ar, -, Sz, Ng, -, -⟩ := V
  exact X.arraylength hx (by rw [eT]; exact Ar.1) (State.isArrayOf_alike hZ.alike Ar.2.1) hg hs hd _ (by rw [len_of Sz Ng]; exact hr)
theorem own_ldI (X : Stand p l e R s m args below meth c T locs cells slots) (hx : p.tables.exec = Jvm.exec) (hZ : Z.Warmed39 s.vm) (eT : T.heap = h) (V : Arv Z h a kc .int z vs dv) {j : Int32} {x : Int32} (hin : ¬ j < 0 ∧ j < z) (hv : vs.getD j.toNatClampNeg dv = .int x) (hg : g.method = m) {rest : List Value} (hs : g.stack = .int j :: .ref a :: rest) (hd : decode c.code g.pc = .ok (.iaload, 1))
    (hr : Steps p.tables e below (T.setTop { g with pc := g.pc + 1, stack := .int x :: rest }) target) : Steps p.tables e below (T.setTop g) target := by
  obtain ⟨cl, Ar, -, Sz, Ng, Hs, Ft⟩ := V
  have hq := inb_of (j := j) Sz hin
  exact X.iaload hx (j := j) (v := .int x) (by rw [eT]; exact Ar.1) (State.isArrayOf_alike hZ.alike Ar.2.1) Ar.2.2 hq (Hs.at hq hv) hg hs hd _ hr
theorem own_ldB (X : Stand p l e R s m args below meth c T locs cells slots) (hx : p.tables.exec = Jvm.exec) (hZ : Z.Warmed39 s.vm) (eT : T.heap = h) (V : Arv Z h a kc .byte z vs dv) {j : Int32} {x : Int32} (hin : ¬ j < 0 ∧ j < z) (hv : vs.getD j.toNatClampNeg dv = .int x) (hg : g.method = m) {rest : List Value} (hs : g.stack = .int j :: .ref a :: rest) (hd : decode c.code g.pc = .ok (.baload, 1))
    (hr : Steps p.tables e below (T.setTop { g with pc := g.pc + 1, stack := .int x :: rest }) target) : Steps p.tables e below (T.setTop g) target := by
  obtain ⟨cl, Ar, -, Sz, Ng, Hs, Ft⟩ := V
  have hq := inb_of (j := j) Sz hin
  exact X.baloadBytes hx (j := j) (v := .int x) (by rw [eT]; exact Ar.1) (State.isArrayOf_alike hZ.alike Ar.2.1) Ar.2.2 hq (Hs.at hq hv) hg hs hd _ hr
theorem own_ldZ (X : Stand p l e R s m args below meth c T locs cells slots) (hx : p.tables.exec = Jvm.exec) (hZ : Z.Warmed39 s.vm) (eT : T.heap = h) (V : Arv Z h a kc .boolean z vs dv) {j : Int32} {x : Int32} (hin : ¬ j < 0 ∧ j < z) (hv : vs.getD j.toNatClampNeg dv = .int x) (hg : g.method = m) {rest : List Value} (hs : g.stack = .int j :: .ref a :: rest) (hd : decode c.code g.pc = .ok (.baload, 1))
    (hr : Steps p.tables e below (T.setTop { g with pc := g.pc + 1, stack := .int x :: rest }) target) : Steps p.tables e below (T.setTop g) target := by
  obtain ⟨cl, Ar, -, Sz, Ng, Hs, Ft⟩ := V
  have hq := inb_of (j := j) Sz hin
  exact X.baloadBooleans hx (j := j) (v := .int x) (by rw [eT]; exact Ar.1) (State.isArrayOf_alike hZ.alike Ar.2.1) Ar.2.2 hq (Hs.at hq hv) hg hs hd _ hr
theorem own_ldC (X : Stand p l e R s m args below meth c T locs cells slots) (hx : p.tables.exec = Jvm.exec) (hZ : Z.Warmed39 s.vm) (eT : T.heap = h) (V : Arv Z h a kc .char z vs dv) {j : Int32} {x : Int32} (hin : ¬ j < 0 ∧ j < z) (hv : vs.getD j.toNatClampNeg dv = .int x) (hg : g.method = m) {rest : List Value} (hs : g.stack = .int j :: .ref a :: rest) (hd : decode c.code g.pc = .ok (.caload, 1))
    (hr : Steps p.tables e below (T.setTop { g with pc := g.pc + 1, stack := .int x :: rest }) target) : Steps p.tables e below (T.setTop g) target := by
  obtain ⟨cl, Ar, -, Sz, Ng, Hs, Ft⟩ := V
  have hq := inb_of (j := j) Sz hin
  exact X.caload hx (j := j) (v := .int x) (by rw [eT]; exact Ar.1) (State.isArrayOf_alike hZ.alike Ar.2.1) Ar.2.2 hq (Hs.at hq hv) hg hs hd _ hr
theorem own_ldJ (X : Stand p l e R s m args below meth c T locs cells slots) (hx : p.tables.exec = Jvm.exec) (hZ : Z.Warmed39 s.vm) (eT : T.heap = h) (V : Arv Z h a kc .long z vs dv) {j : Int32} {x : Int64} (hin : ¬ j < 0 ∧ j < z) (hv : vs.getD j.toNatClampNeg dv = .long x) (hg : g.method = m) {rest : List Value} (hs : g.stack = .int j :: .ref a :: rest) (hd : decode c.code g.pc = .ok (.laload, 1))
    (hr : Steps p.tables e below (T.setTop { g with pc := g.pc + 1, stack := .long x :: rest }) target) : Steps p.tables e below (T.setTop g) target := by
  obtain ⟨cl, Ar, -, Sz, Ng, Hs, Ft⟩ := V
  have hq := inb_of (j := j) Sz hin
  exact X.laload hx (j := j) (v := .long x) (by rw [eT]; exact Ar.1) (State.isArrayOf_alike hZ.alike Ar.2.1) Ar.2.2 hq (Hs.at hq hv) hg hs hd _ hr
theorem own_ldR (X : Stand p l e R s m args below meth c T locs cells slots) (hx : p.tables.exec = Jvm.exec) (hZ : Z.Warmed39 s.vm) (eT : T.heap = h) (V : Arv Z h a kc ty z vs dv) {j : Int32} {x : Value} (hin : ¬ j < 0 ∧ j < z) (hv : vs.getD j.toNatClampNeg dv = x) (hty : ty.isReference = true) (hg : g.method = m) {rest : List Value} (hs : g.stack = .int j :: .ref a :: rest) (hd : decode c.code g.pc = .ok (.aaload, 1))
    (hr : Steps p.tables e below (T.setTop { g with pc := g.pc + 1, stack := x :: rest }) target) : Steps p.tables e below (T.setTop g) target := by
  obtain ⟨cl, Ar, -, Sz, Ng, Hs, Ft⟩ := V
  have hq := inb_of (j := j) Sz hin
  exact X.aaload hx (j := j) (v := x) (by rw [eT]; exact Ar.1) (State.isArrayOf_alike hZ.alike Ar.2.1) hty Ar.2.2 hq (Hs.at hq hv) hg hs hd _ hr
theorem own_stI (X : Stand p l e R s m args below meth c T locs cells slots) (hx : p.tables.exec = Jvm.exec) (hZ : Z.Warmed39 s.vm) (eT : T.heap = h) (V : Arv Z h a kc .int z vs dv) {j : Int32} {x : Int32} (hin : ¬ j < 0 ∧ j < z) (i : Nat) (hj : j.toNatClampNeg = i) (hi : i < vs.length) (hg : g.method = m) {rest : List Value} (hs : g.stack = .int x :: .int j :: .ref a :: rest) (hd : decode c.code g.pc = .ok (.iastore, 1)) :
    ∃ T' h', Stand p l e R s m args below meth c T' (locs ++ [⟨a, j.toNatClampNeg⟩]) cells slots ∧ T'.heap = h' ∧ Wr h h' a j.toNatClampNeg (.int x) ∧ Arv Z h' a kc .int z (vs.set i (.int x)) dv ∧ ∀ target, Steps p.tables e below (T'.setTop { g with pc := g.pc + 1, stack := rest }) target → Steps p.tables e below (T.setTop g) target := by
  obtain ⟨cl, Ar, q, Sz, Ng, Hs, Ft⟩ := V
  obtain ⟨T', h', X', e', W', st⟩ := stI X hx hZ eT Ar (j := j) (inb_of Sz hin) hg hs hd
  exact ⟨T', h', X', e', W', Arv.set Ar q Sz Ng Hs Ft rfl W' i hj hi, st⟩
theorem own_stB (X : Stand p l e R s m args below meth c T locs cells slots) (hx : p.tables.exec = Jvm.exec) (hZ : Z.Warmed39 s.vm) (eT : T.heap = h) (V : Arv Z h a kc .byte z vs dv) {j : Int32} {x : Int32} (hin : ¬ j < 0 ∧ j < z) (i : Nat) (hj : j.toNatClampNeg = i) (hi : i < vs.length) (hg : g.method = m) {rest : List Value} (hs : g.stack = .int x :: .int j :: .ref a :: rest) (hd : decode c.code g.pc = .ok (.bastore, 1)) :
    ∃ T' h', Stand p l e R s m args below meth c T' (locs ++ [⟨a, j.toNatClampNeg⟩]) cells slots ∧ T'.heap = h' ∧ Wr h h' a j.toNatClampNeg (.int (nar .byte x)) ∧ Arv Z h' a kc .byte z (vs.set i (.int (nar .byte x))) dv ∧ ∀ target, Steps p.tables e below (T'.setTop { g with pc := g.pc + 1, stack := rest }) target → Steps p.tables e below (T.setTop g) target := by
  obtain ⟨cl, Ar, q, Sz, Ng, Hs, Ft⟩ := V
  obtain ⟨T', h', X', e', W', st⟩ := stB X hx hZ eT Ar (j := j) (inb_of Sz hin) hg hs hd
  exact ⟨T', h', X', e', W', Arv.set Ar q Sz Ng Hs Ft (fits_nar_byte _) W' i hj hi, st⟩
theorem own_stC (X : Stand p l e R s m args below meth c T locs cells slots) (hx : p.tables.exec = Jvm.exec) (hZ : Z.Warmed39 s.vm) (eT : T.heap = h) (V : Arv Z h a kc .char z vs dv) {j : Int32} {x : Int32} (hin : ¬ j < 0 ∧ j < z) (i : Nat) (hj : j.toNatClampNeg = i) (hi : i < vs.length) (hg : g.method = m) {rest : List Value} (hs : g.stack = .int x :: .int j :: .ref a :: rest) (hd : decode c.code g.pc = .ok (.castore, 1)) :
    ∃ T' h', Stand p l e R s m args below meth c T' (locs ++ [⟨a, j.toNatClampNeg⟩]) cells slots ∧ T'.heap = h' ∧ Wr h h' a j.toNatClampNeg (.int (nar .char x)) ∧ Arv Z h' a kc .char z (vs.set i (.int (nar .char x))) dv ∧ ∀ target, Steps p.tables e below (T'.setTop { g with pc := g.pc + 1, stack := rest }) target → Steps p.tables e below (T.setTop g) target := by
  obtain ⟨cl, Ar, q, Sz, Ng, Hs, Ft⟩ := V
  obtain ⟨T', h', X', e', W', st⟩ := stC X hx hZ eT Ar (j := j) (inb_of Sz hin) hg hs hd
  exact ⟨T', h', X', e', W', Arv.set Ar q Sz Ng Hs Ft (fits_nar_char _) W' i hj hi, st⟩
theorem own_stJ (X : Stand p l e R s m args below meth c T locs cells slots) (hx : p.tables.exec = Jvm.exec) (hZ : Z.Warmed39 s.vm) (eT : T.heap = h) (V : Arv Z h a kc .long z vs dv) {j : Int32} {x : Int64} (hin : ¬ j < 0 ∧ j < z) (i : Nat) (hj : j.toNatClampNeg = i) (hi : i < vs.length) (hg : g.method = m) {rest : List Value} (hs : g.stack = .long x :: .int j :: .ref a :: rest) (hd : decode c.code g.pc = .ok (.lastore, 1)) :
    ∃ T' h', Stand p l e R s m args below meth c T' (locs ++ [⟨a, j.toNatClampNeg⟩]) cells slots ∧ T'.heap = h' ∧ Wr h h' a j.toNatClampNeg (.long x) ∧ Arv Z h' a kc .long z (vs.set i (.long x)) dv ∧ ∀ target, Steps p.tables e below (T'.setTop { g with pc := g.pc + 1, stack := rest }) target → Steps p.tables e below (T.setTop g) target := by
  obtain ⟨cl, Ar, q, Sz, Ng, Hs, Ft⟩ := V
  obtain ⟨T', h', X', e', W', st⟩ := stJ X hx hZ eT Ar (j := j) (inb_of Sz hin) hg hs hd
  exact ⟨T', h', X', e', W', Arv.set Ar q Sz Ng Hs Ft rfl W' i hj hi, st⟩
theorem own_stZ (X : Stand p l e R s m args below meth c T locs cells slots) (hx : p.tables.exec = Jvm.exec) (hZ : Z.Warmed39 s.vm) (eT : T.heap = h) (V : Arv Z h a kc .boolean z vs dv) {j : Int32} {x : Int32} (hin : ¬ j < 0 ∧ j < z) (i : Nat) (hj : j.toNatClampNeg = i) (hi : i < vs.length) (hg : g.method = m) {rest : List Value} (hs : g.stack = .int x :: .int j :: .ref a :: rest) (hd : decode c.code g.pc = .ok (.bastore, 1)) :
    ∃ T' h', Stand p l e R s m args below meth c T' (locs ++ [⟨a, j.toNatClampNeg⟩]) cells slots ∧ T'.heap = h' ∧ Wr h h' a j.toNatClampNeg (.int (nar .boolean x)) ∧ Arv Z h' a kc .boolean z (vs.set i (.int (nar .boolean x))) dv ∧ ∀ target, Steps p.tables e below (T'.setTop { g with pc := g.pc + 1, stack := rest }) target → Steps p.tables e below (T.setTop g) target := by
  obtain ⟨cl, Ar, q, Sz, Ng, Hs, Ft⟩ := V
  obtain ⟨T', h', X', e', W', st⟩ := stZ X hx hZ eT Ar (j := j) (inb_of Sz hin) hg hs hd
  exact ⟨T', h', X', e', W', Arv.set Ar q Sz Ng Hs Ft (fits_nar_bool _) W' i hj hi, st⟩
theorem own_stR (X : Stand p l e R s m args below meth c T locs cells slots) (hx : p.tables.exec = Jvm.exec) (hZ : Z.Warmed39 s.vm) (eT : T.heap = h) (V : Arv Z h a kc ty z vs dv) {j : Int32} {x : Value} (hin : ¬ j < 0 ∧ j < z) (hty : ty.isReference = true) (hf : fits ty x = true) (F : ∀ cl, Arr Z h a cl ty → cl.cls = kc → Sto Z h a x) (i : Nat) (hj : j.toNatClampNeg = i) (hi : i < vs.length) (hg : g.method = m) {rest : List Value} (hs : g.stack = x :: .int j :: .ref a :: rest) (hd : decode c.code g.pc = .ok (.aastore, 1)) :
    ∃ T' h', Stand p l e R s m args below meth c T' (locs ++ [⟨a, j.toNatClampNeg⟩]) cells slots ∧ T'.heap = h' ∧ Wr h h' a j.toNatClampNeg x ∧ Arv Z h' a kc ty z (vs.set i x) dv ∧ ∀ target, Steps p.tables e below (T'.setTop { g with pc := g.pc + 1, stack := rest }) target → Steps p.tables e below (T.setTop g) target := by
  obtain ⟨cl, Ar, q, Sz, Ng, Hs, Ft⟩ := V
  obtain ⟨T', h', X', e', W', st⟩ := stR X hx hZ eT Ar (j := j) (inb_of Sz hin) hty (F cl Ar q) hg hs hd
  exact ⟨T', h', X', e', W', Arv.set Ar q Sz Ng Hs Ft hf W' i hj hi, st⟩
end Arr
section Dbl
open Jvm.Free.XS
variable {tb : Tables} [Ours tb] {target : State} {g : JFrame}
theorem own_dloadN (h : At T m c below) (hx : tb.exec = Jvm.exec) (hg : g.method = m) {k : Fin 4} {v : UInt64} (hd : decode c.code g.pc = .ok (.dload_n k, 1)) (hl : g.locals[k.val]? = some (.val (.double v))) (hr : Steps tb e below (T.setTop { g with pc := g.pc + 1, stack := .double v :: g.stack }) target) : Steps tb e below (T.setTop g) target := by
  subst hg
  jvm_step h [h.top, hx, hd, hl]
  exact hr
theorem own_dload (h : At T m c below) (hx : tb.exec = Jvm.exec) (hg : g.method = m) {k : Nat} {v : UInt64} (hd : decode c.code g.pc = .ok (.dload k, 2)) (hl : g.locals[k]? = some (.val (.double v))) (hr : Steps tb e below (T.setTop { g with pc := g.pc + 2, stack := .double v :: g.stack }) target) : Steps tb e below (T.setTop g) target := by
  subst hg
  jvm_step h [h.top, hx, hd, hl]
  exact hr
theorem own_i2d (h : At T m c below) (hx : tb.exec = Jvm.exec) (hg : g.method = m) {x : Int32} {rest : List Value} (hd : decode c.code g.pc = .ok (.i2d, 1)) (hs : g.stack = .int x :: rest) (hr : Steps tb e below (T.setTop { g with pc := g.pc + 1, stack := .double (FP.i2d x) :: rest }) target) : Steps tb e below (T.setTop g) target := by
  subst hg
  jvm_step h [h.top, hx, hd, hs]
  exact hr
theorem own_dconst0 (h : At T m c below) (hx : tb.exec = Jvm.exec) (hg : g.method = m) (hd : decode c.code g.pc = .ok (.dconst 0, 1)) (hr : Steps tb e below (T.setTop { g with pc := g.pc + 1, stack := .double FP.dconst0 :: g.stack }) target) : Steps tb e below (T.setTop g) target := by
  subst hg
  jvm_step h [h.top, hx, hd]
  exact hr
theorem own_dconst1 (h : At T m c below) (hx : tb.exec = Jvm.exec) (hg : g.method = m) (hd : decode c.code g.pc = .ok (.dconst 1, 1)) (hr : Steps tb e below (T.setTop { g with pc := g.pc + 1, stack := .double FP.dconst1 :: g.stack }) target) : Steps tb e below (T.setTop g) target := by
  subst hg
  jvm_step h [h.top, hx, hd]
  exact hr
theorem own_pop2D (h : At T m c below) (hx : tb.exec = Jvm.exec) (hg : g.method = m) {v : UInt64} {rest : List Value} (hd : decode c.code g.pc = .ok (.pop2, 1)) (hs : g.stack = .double v :: rest) (hr : Steps tb e below (T.setTop { g with pc := g.pc + 1, stack := rest }) target) : Steps tb e below (T.setTop g) target := by
  subst hg
  jvm_step h [h.top, hx, hd, hs, Value.category]
  exact hr
theorem own_dup2 (h : At T m c below) (hx : tb.exec = Jvm.exec) (hg : g.method = m) {x y : Value} {rest : List Value} (hd : decode c.code g.pc = .ok (.dup2, 1)) (hs : g.stack = x :: y :: rest) (h1 : x.category = 1) (h2 : y.category = 1) (hr : Steps tb e below (T.setTop { g with pc := g.pc + 1, stack := x :: y :: x :: y :: rest }) target) : Steps tb e below (T.setTop g) target := by
  subst hg
  jvm_step h [h.top, hx, hd, hs, h1, h2]
  exact hr
theorem own_lsw (h : At T m c below) (hx : tb.exec = Jvm.exec) (hg : g.method = m) {dflt : Int} {prs : Array (Int × Int)} {len : Nat} {o : Int} {pc0 pc' : Nat} (hpc : g.pc = pc0) (hd : decode c.code g.pc = .ok (.lookupswitch dflt prs, len)) {i : Int32} {rest : List Value} (hs : g.stack = .int i :: rest) (ho : lookupswitch.offset prs.toList dflt i.toInt = o) (h0 : 0 ≤ (pc0 : Int) + o) (hp : ((pc0 : Int) + o).toNat = pc') (hk : (prs.toList.zip prs.toList.tail).all (fun q => decide (q.1.1 < q.2.1)) = true)
    (hr : Steps tb e below (T.setTop { g with pc := pc', stack := rest }) target) : Steps tb e below (T.setTop g) target := by
  subst hg hpc hp
  jvm_step h [h.top, hx, hd, hs, ho, h0, lookupswitch.wp_chain]
  exact ⟨fun a b a' b' hm => by simpa using List.all_eq_true.mp hk _ hm, hr⟩
theorem own_dcmp (h : At T m c below) (hx : tb.exec = Jvm.exec) (hg : g.method = m) {x y : UInt64} {rest : List Value} {op : CmpOp} {o : Ordering} (hd : decode c.code g.pc = .ok (.dcmp op, 1)) (hs : g.stack = .double y :: .double x :: rest) (hc : FP.dcmp x y = some o) (hr : Steps tb e below (T.setTop { g with pc := g.pc + 1, stack := .int (FP.cmpInt 0 (some o)) :: rest }) target) : Steps tb e below (T.setTop g) target := by
  subst hg
  cases o <;> (jvm_step h [h.top, hx, hd, hs, hc, cmpValue]; exact hr)
end Dbl
theorem own_ne0 {s : State} {args : Array Value} {t : Term} {x : Int32} (ev : t.eval args s none [] s = some (.int x)) (h : (Cond.not (Cond.eq t (.int (0 : Int32)))).before args s = true) : ¬ (x = (0 : Int32)) := fun q => by
  subst q
  have h' := Cond.before_iff.mp h
  have e2 : (Term.int (0 : Int32)).eval args s none [] s = some (.int (0 : Int32)) := rfl
  simp only [Cond.value, ev, e2] at h'
  simp at h'
abbrev oI (x : Int32) : Slot := .val (.int x)
abbrev oR (x : Addr) : Slot := .val (.ref x)
abbrev oU : Slot := .unset
abbrev oS : Slot := .second
abbrev vI (x : Int32) : Value := .int x
abbrev vR (x : Addr) : Value := .ref x
def own_sel {α : Type} (P : Prop) [Decidable P] (x y : α) : α := if P then x else y
theorem own_sel_t {α : Type} {P : Prop} [Decidable P] {x y : α} (h : P) : own_sel P x y = x := if_pos h
theorem own_sel_f {α : Type} {P : Prop} [Decidable P] {x y : α} (h : ¬ P) : own_sel P x y = y := if_neg h
def own_b2i (P : Prop) [Decidable P] : Int32 := if P then 1 else 0
theorem own_b2i_1 {P : Prop} [Decidable P] (h : P) : own_b2i P = 1 := by rw [own_b2i, if_pos h]
theorem own_b2i_congr {P R : Prop} [Decidable P] [Decidable R] (h : P ↔ R) : own_b2i P = own_b2i R := by
  by_cases q : P
  · rw [own_b2i_1 q, own_b2i_1 (h.mp q)]
  · rw [own_b2i, own_b2i, if_neg q, if_neg (fun r => q (h.mpr r))]
theorem own_b2i_t {P : Prop} [Decidable P] (h : P) : ¬ own_b2i P = 0 := by rw [own_b2i, if_pos h]; decide
theorem own_b2i_f {P : Prop} [Decidable P] (h : ¬ P) : own_b2i P = 0 := by rw [own_b2i, if_neg h]
theorem own_sta_keep {C n d : String} {v : Value} (F : Sta Z h C n d v) (K : Keep h h' ws) (q : ∀ st ∈ ws, ∀ c, h[st]? = some c → c.vm.isStatics = false) : Sta Z h' C n d v := by
  obtain ⟨cf, i, k, f, st, cell, h1, h2, h3, h4, h5, h6, h7⟩ := F
  exact ⟨cf, i, k, f, st, cell, h1, h2, h3, h4, K.2.1 st cell h5 (fun z => by rw [q st z cell h5] at h6; cases h6), h6, h7⟩
theorem own_ws0 : ∀ st ∈ ([] : List Addr), ∀ c, h[st]? = some c → c.vm.isStatics = false := fun _ q => nomatch q
theorem own_wsE {a : Addr} {C : String} (F : Exa Z h a C) (q : ∀ st ∈ ws, ∀ c, h[st]? = some c → c.vm.isStatics = false) : ∀ st ∈ a :: ws, ∀ c, h[st]? = some c → c.vm.isStatics = false := fun st hs c hc => by
  rcases List.mem_cons.mp hs with rfl | hs
  · obtain ⟨cell, k, h1, -, -, h4, -⟩ := F; cases h1.symm.trans hc; exact h4
  · exact q st hs c hc
theorem own_wsF {a : Addr} {C n d : String} {v : Value} (F : Fld Z h a C n d v) (q : ∀ st ∈ ws, ∀ c, h[st]? = some c → c.vm.isStatics = false) : ∀ st ∈ a :: ws, ∀ c, h[st]? = some c → c.vm.isStatics = false := fun st hs c hc => by
  rcases List.mem_cons.mp hs with rfl | hs
  · exact old_plain F c hc
  · exact q st hs c hc
theorem own_wsV {a : Addr} {k : ClassId} {ty : FieldType} {z : Int32} {vs : List Value} {dv : Value} (F : Arv Z h a k ty z vs dv) (q : ∀ st ∈ ws, ∀ c, h[st]? = some c → c.vm.isStatics = false) : ∀ st ∈ a :: ws, ∀ c, h[st]? = some c → c.vm.isStatics = false := fun st hs c hc => by
  rcases List.mem_cons.mp hs with rfl | hs
  · obtain ⟨cl, A, -⟩ := F; cases A.1.symm.trans hc; exact A.plain
  · exact q st hs c hc
theorem own_selp {s : State} {args : Array Value} {C : String} {y : MethodName} (h : (Cond.selects C y y).before args s = true) (hp : s.PrivateAt y) (hi : (Cond.instanceMethod y).before args s = true) (hy : y.cls ≠ "java/lang/invoke/MethodHandle" ∧ y.cls ≠ "java/lang/invoke/VarHandle") : (Cond.selects y.cls y y).before args s = true := by
  obtain ⟨c2, r2, m2, -, -, q3, -, kP, hkP, hkPi⟩ := Cond.selects_spec h
  exact selects_self_of_private (findClass_of_methodNamed q3) hkP hkPi hp hi hy
theorem own_seli {s : State} {args : Array Value} {n : Nat} {y : MethodName} (h : (Cond.instantiable y.cls n).before args s = true) (hp : s.PrivateAt y) (hi : (Cond.instanceMethod y).before args s = true) (hy : y.cls ≠ "java/lang/invoke/MethodHandle" ∧ y.cls ≠ "java/lang/invoke/VarHandle") : (Cond.selects y.cls y y).before args s = true := by
  obtain ⟨t', kt, g1, g2, g3, g4, -⟩ := Cond.instantiable_spec h
  exact selects_self_of_private g1 g2 (Bool.or_eq_false_iff.mp g4).1 hp hi hy
theorem own_same {s : State} {args : Array Value} {C : String} {x y y2 : MethodName} (h : (Cond.selects C x y2).before args s = true) (hc : y2.cls = y.cls) (hi : (Cond.instanceMethod y).before args s = true) (hy : y.cls ≠ "java/lang/invoke/MethodHandle" ∧ y.cls ≠ "java/lang/invoke/VarHandle") : (Cond.sameMethod y.cls y.cls y.name y.desc).before args s = true := by
  obtain ⟨c2, r2, m2, -, -, q3, -, kP, hkP, hkPi⟩ := Cond.selects_spec h
  obtain ⟨mk, methM, hnamed, -, -, -⟩ := Cond.instanceMethod_spec hi
  have hf : s.methodFound? y.cls y.name y.desc = some mk := State.methodFound?_of_named hnamed hy
  have c1 : s.vm.findClass y2.cls = some m2.cls := findClass_of_methodNamed q3
  rw [hc] at c1
  have hn : s.methodNamed? ⟨y.cls, y.name, y.desc⟩ = some mk := hnamed
  refine Cond.before_iff.mpr ?_
  simp only [Cond.value, c1, hf, hn, hkP]
  simp [hkPi]
theorem own_nf {s : State} {args : Array Value} {C : String} {x y y2 : MethodName} (h : (Cond.selects C x y2).before args s = true) (hc : y2.cls = y.cls) : NotFace s y := fun r0 h0 => by
  obtain ⟨c2, r2, m2, -, -, q3, -, kP, hkP, hkPi⟩ := Cond.selects_spec h
  have c1 : s.vm.findClass y2.cls = some m2.cls := findClass_of_methodNamed q3
  have c0 : s.vm.findClass y.cls = some r0.cls := findClass_of_methodNamed h0
  rw [hc] at c1
  have e : m2.cls = r0.cls := Option.some.inj (c1.symm.trans c0)
  exact ⟨kP, by rw [← e]; exact hkP, hkPi⟩
theorem own_out {kc ks : Nat} {Q : Option Value → Heap → List Loc → Prop} {s₀ : State} {F : Option Value → JFrame} {P1 : Vm → Prop}
    (h : ∃ (v : Option Value) (vm₁ : Vm) (B : Pt), P1 vm₁ ∧ Stand p l e R s m args below meth c B.U B.locs B.cells B.slots ∧ (∃ L, Q v B.U.heap L ∧ B.locs = locs ++ L ∧ B.cells = cells + kc ∧ B.slots = slots + ks) ∧ Steps p.tables e below s₀ (B.U.setTop (F v))) :
    ∃ v T L, Stand p l e R s m args below meth c T (locs ++ L) (cells + kc) (slots + ks) ∧ Q v T.heap L ∧ Steps p.tables e below s₀ (T.setTop (F v)) := by
  obtain ⟨v, -, ⟨T, L0, k, n⟩, -, X, ⟨L, hQ, e1, e2, e3⟩, st⟩ := h
  dsimp only [Pt.U, Pt.locs, Pt.cells, Pt.slots] at X e1 e2 e3 st hQ
  subst e1 e2 e3
  exact ⟨v, T, L, X, hQ, st⟩
theorem own_outC {kc ks : Nat} {Q : Option Value → Heap → List Loc → Prop} {s₀ : State} {F : Option Value → JFrame} {P1 : Vm → Prop}
    (h : ∃ (v : Option Value) (vm₁ : Vm) (B : Pt), P1 vm₁ ∧ Stand p l e R s m args below meth c B.U B.locs B.cells B.slots ∧ (∃ L, Q v B.U.heap L ∧ B.locs = locs ++ L ∧ B.cells = cells + kc ∧ B.slots = slots + ks) ∧ ∀ target, Steps p.tables e below (B.U.setTop (F v)) target → Steps p.tables e below s₀ target) :
    ∃ v T L, Stand p l e R s m args below meth c T (locs ++ L) (cells + kc) (slots + ks) ∧ Q v T.heap L ∧ ∀ target, Steps p.tables e below (T.setTop (F v)) target → Steps p.tables e below s₀ target := by
  obtain ⟨v, -, ⟨T, L0, k, n⟩, -, X, ⟨L, hQ, e1, e2, e3⟩, st⟩ := h
  dsimp only [Pt.U, Pt.locs, Pt.cells, Pt.slots] at X e1 e2 e3 st hQ
  subst e1 e2 e3
  exact ⟨v, T, L, X, hQ, st⟩
theorem own_outS {kc ks n0 : Nat} {Q : Option Value → Heap → Vm → List Loc → Prop} {s₀ : State} {F : Option Value → JFrame} {P1 : Vm → Prop}
    (h : ∃ (v : Option Value) (vm₁ : Vm) (B : Pt), P1 vm₁ ∧ Stand p l e R (s.setVm B.U.vm) m args below meth c B.U B.locs B.cells B.slots ∧ s.Since B.U.vm B.U.heap.size ∧ n0 ≤ B.U.heap.size ∧ (∃ L, Q v B.U.heap B.U.vm L ∧ B.locs = locs ++ L ∧ B.cells = cells + kc ∧ B.slots = slots + ks) ∧ Steps p.tables e below s₀ (B.U.setTop (F v))) :
    ∃ v T L, Stand p l e R (s.setVm T.vm) m args below meth c T (locs ++ L) (cells + kc) (slots + ks) ∧ s.Since T.vm T.heap.size ∧ n0 ≤ T.heap.size ∧ Q v T.heap T.vm L ∧ Steps p.tables e below s₀ (T.setTop (F v)) := by
  obtain ⟨v, -, ⟨T, L0, k, n⟩, -, X, hS, hg, ⟨L, hQ, e1, e2, e3⟩, st⟩ := h
  dsimp only [Pt.U, Pt.locs, Pt.cells, Pt.slots] at X e1 e2 e3 st hQ hS hg
  subst e1 e2 e3
  exact ⟨v, T, L, X, hS, hg, hQ, st⟩
theorem own_hide {n0 : Nat} (X : Stand p l e R s m args below meth c T locs cells slots) (N : Fr n0 locs) : ∃ L, Stand p l e R s m args below meth c T L cells slots ∧ Fr n0 L := ⟨_, X, N⟩
theorem own_exa_ne {a b : Addr} {C D : String} (A : Exa Z h a C) (B : Exa Z h b D) (hn : C ≠ D) : a ≠ b := fun q => by
  subst q
  obtain ⟨c1, k1, h1, h2, -⟩ := A
  obtain ⟨c2, k2, g1, g2, -⟩ := B
  cases h1.symm.trans g1
  exact ids_ne h2 g2 hn rfl
theorem own_kx (K : Keep h h' []) : Ext h h' := ⟨K.1, fun a c q => K.2.1 a c q nin0⟩
theorem own_ins_keep {a : Addr} {C : String} {bo : Bool} (F : Ins Z h a C bo) (K : Keep h h' ws) : Ins Z h' a C bo := by
  obtain ⟨cell, cT, h1, h2, h3⟩ := F
  obtain ⟨c', q, r1, r2, r3⟩ := K.2.2 a cell h1
  exact ⟨c', cT, q, h2, by rw [r1, r2]; exact h3⟩
end Own
abbrev mn0 : MethodName := ⟨"java/lang/Math", "max", "(II)I"⟩
theorem ow28 {Z : State} {a0 : Array Value} (hw : ∀ d ∈ tables_1, d.before a0 Z = true) : (Jvm.Cond.constantDouble "com/example/feedback/feedback/search/Parameters" (9 : Nat) (9218868437227405312 : UInt64)).before a0 Z = true := hw _ (List.mem_of_getElem? (i := 28) rfl)
abbrev mn1 : MethodName := ⟨"com/example/feedback/feedback/search/Parameters", "atLeastZero", "(Ljava/lang/String;D)D"⟩
theorem ow13 {Z : State} {a0 : Array Value} (hw : ∀ d ∈ tables_1, d.before a0 Z = true) : (Jvm.Cond.methodLink "com/example/feedback/feedback/search/Bm25" (1 : Nat) ({ cls := "java/lang/Object", name := "<init>", desc := "()V" } : Jvm.MethodName)).before a0 Z = true := hw _ (List.mem_of_getElem? (i := 13) rfl)
theorem ow15 {Z : State} {a0 : Array Value} (hw : ∀ d ∈ tables_1, d.before a0 Z = true) : (Jvm.Cond.code ({ cls := "java/lang/Object", name := "<init>", desc := "()V" } : Jvm.MethodName) object_method_1_code (1 : Nat) (Option.none : Option Jvm.ClassFile.FieldType)).before a0 Z = true := hw _ (List.mem_of_getElem? (i := 15) rfl)
theorem ow14 {Z : State} {a0 : Array Value} (hw : ∀ d ∈ tables_1, d.before a0 Z = true) : (Jvm.Cond.instanceMethod ({ cls := "java/lang/Object", name := "<init>", desc := "()V" } : Jvm.MethodName)).before a0 Z = true := hw _ (List.mem_of_getElem? (i := 14) rfl)
theorem ow16 {Z : State} {a0 : Array Value} (hw : ∀ d ∈ tables_1, d.before a0 Z = true) : (Jvm.Cond.stringLink "com/example/feedback/feedback/search/Bm25" (7 : Nat) "k1").before a0 Z = true := hw _ (List.mem_of_getElem? (i := 16) rfl)
theorem ow24 {Z : State} {a0 : Array Value} (hw : ∀ d ∈ tables_1, d.before a0 Z = true) : (Jvm.Cond.methodLink "com/example/feedback/feedback/search/Bm25" (9 : Nat) ({ cls := "com/example/feedback/feedback/search/Parameters", name := "atLeastZero", desc := "(Ljava/lang/String;D)D" } : Jvm.MethodName)).before a0 Z = true := hw _ (List.mem_of_getElem? (i := 24) rfl)
theorem ow27 {Z : State} {a0 : Array Value} (hw : ∀ d ∈ tables_1, d.before a0 Z = true) : (Jvm.Cond.code ({ cls := "com/example/feedback/feedback/search/Parameters", name := "atLeastZero", desc := "(Ljava/lang/String;D)D" } : Jvm.MethodName) prog_43_method_2_code (3 : Nat) (Option.some Jvm.ClassFile.FieldType.double)).before a0 Z = true := hw _ (List.mem_of_getElem? (i := 27) rfl)
theorem ow26 {Z : State} {a0 : Array Value} (hw : ∀ d ∈ tables_1, d.before a0 Z = true) : (Jvm.Cond.initialized "com/example/feedback/feedback/search/Parameters").before a0 Z = true := hw _ (List.mem_of_getElem? (i := 26) rfl)
theorem ow25 {Z : State} {a0 : Array Value} (hw : ∀ d ∈ tables_1, d.before a0 Z = true) : (Jvm.Cond.static ({ cls := "com/example/feedback/feedback/search/Parameters", name := "atLeastZero", desc := "(Ljava/lang/String;D)D" } : Jvm.MethodName)).before a0 Z = true := hw _ (List.mem_of_getElem? (i := 25) rfl)
theorem ow29 {Z : State} {a0 : Array Value} (hw : ∀ d ∈ tables_1, d.before a0 Z = true) : (Jvm.Cond.fieldLink "com/example/feedback/feedback/search/Bm25" (24 : Nat) "com/example/feedback/feedback/search/Bm25" "k1" "D").before a0 Z = true := hw _ (List.mem_of_getElem? (i := 29) rfl)
theorem ow30 {Z : State} {a0 : Array Value} (hw : ∀ d ∈ tables_1, d.before a0 Z = true) : (Jvm.Cond.laysFinal "com/example/feedback/feedback/search/Bm25" "com/example/feedback/feedback/search/Bm25" "k1" "D").before a0 Z = true := hw _ (List.mem_of_getElem? (i := 30) rfl)
theorem ow6 {Z : State} {a0 : Array Value} (hw : ∀ d ∈ tables_1, d.before a0 Z = true) : (Jvm.Cond.instantiable "com/example/feedback/feedback/search/Bm25" (2 : Nat)).before a0 Z = true := hw _ (List.mem_of_getElem? (i := 6) rfl)
theorem ow31 {Z : State} {a0 : Array Value} (hw : ∀ d ∈ tables_1, d.before a0 Z = true) : (Jvm.Cond.fieldLink "com/example/feedback/feedback/search/Bm25" (29 : Nat) "com/example/feedback/feedback/search/Bm25" "b" "D").before a0 Z = true := hw _ (List.mem_of_getElem? (i := 31) rfl)
theorem ow32 {Z : State} {a0 : Array Value} (hw : ∀ d ∈ tables_1, d.before a0 Z = true) : (Jvm.Cond.laysFinal "com/example/feedback/feedback/search/Bm25" "com/example/feedback/feedback/search/Bm25" "b" "D").before a0 Z = true := hw _ (List.mem_of_getElem? (i := 32) rfl)
abbrev mn2 : MethodName := ⟨"com/example/feedback/feedback/search/Bm25", "<init>", "(DD)V"⟩
abbrev mn3 : MethodName := ⟨"com/example/feedback/feedback/search/Bm25", "tfWeight", "(IID)D"⟩
theorem ow0 {Z : State} {a0 : Array Value} (hw : ∀ d ∈ tables_1, d.before a0 Z = true) : (Jvm.Cond.constant "com/example/feedback/feedback/search/Bm25TfWeightPinLaw" (7 : Nat) (2147483647 : Int32)).before a0 Z = true := hw _ (List.mem_of_getElem? (i := 0) rfl)
theorem ow1 {Z : State} {a0 : Array Value} (hw : ∀ d ∈ tables_1, d.before a0 Z = true) : (Jvm.Cond.methodLink "com/example/feedback/feedback/search/Bm25TfWeightPinLaw" (8 : Nat) ({ cls := "java/lang/Math", name := "max", desc := "(II)I" } : Jvm.MethodName)).before a0 Z = true := hw _ (List.mem_of_getElem? (i := 1) rfl)
theorem ow4 {Z : State} {a0 : Array Value} (hw : ∀ d ∈ tables_1, d.before a0 Z = true) : (Jvm.Cond.code ({ cls := "java/lang/Math", name := "max", desc := "(II)I" } : Jvm.MethodName) jdk_29_method_65_code (2 : Nat) (Option.some Jvm.ClassFile.FieldType.int)).before a0 Z = true := hw _ (List.mem_of_getElem? (i := 4) rfl)
theorem ow3 {Z : State} {a0 : Array Value} (hw : ∀ d ∈ tables_1, d.before a0 Z = true) : (Jvm.Cond.initialized "java/lang/Math").before a0 Z = true := hw _ (List.mem_of_getElem? (i := 3) rfl)
theorem ow2 {Z : State} {a0 : Array Value} (hw : ∀ d ∈ tables_1, d.before a0 Z = true) : (Jvm.Cond.static ({ cls := "java/lang/Math", name := "max", desc := "(II)I" } : Jvm.MethodName)).before a0 Z = true := hw _ (List.mem_of_getElem? (i := 2) rfl)
theorem ow5 {Z : State} {a0 : Array Value} (hw : ∀ d ∈ tables_1, d.before a0 Z = true) : (Jvm.Cond.classLink "com/example/feedback/feedback/search/Bm25TfWeightPinLaw" (14 : Nat) "com/example/feedback/feedback/search/Bm25").before a0 Z = true := hw _ (List.mem_of_getElem? (i := 5) rfl)
theorem ow7 {Z : State} {a0 : Array Value} (hw : ∀ d ∈ tables_1, d.before a0 Z = true) : (Jvm.Cond.initialized "com/example/feedback/feedback/search/Bm25").before a0 Z = true := hw _ (List.mem_of_getElem? (i := 7) rfl)
theorem ow8 {Z : State} {a0 : Array Value} (hw : ∀ d ∈ tables_1, d.before a0 Z = true) : (Jvm.Cond.constantDouble "com/example/feedback/feedback/search/Bm25TfWeightPinLaw" (16 : Nat) (4616189618054758400 : UInt64)).before a0 Z = true := hw _ (List.mem_of_getElem? (i := 8) rfl)
theorem ow9 {Z : State} {a0 : Array Value} (hw : ∀ d ∈ tables_1, d.before a0 Z = true) : (Jvm.Cond.constantDouble "com/example/feedback/feedback/search/Bm25TfWeightPinLaw" (18 : Nat) (4620693217682128896 : UInt64)).before a0 Z = true := hw _ (List.mem_of_getElem? (i := 9) rfl)
theorem ow10 {Z : State} {a0 : Array Value} (hw : ∀ d ∈ tables_1, d.before a0 Z = true) : (Jvm.Cond.methodLink "com/example/feedback/feedback/search/Bm25TfWeightPinLaw" (20 : Nat) ({ cls := "com/example/feedback/feedback/search/Bm25", name := "<init>", desc := "(DD)V" } : Jvm.MethodName)).before a0 Z = true := hw _ (List.mem_of_getElem? (i := 10) rfl)
theorem ow12 {Z : State} {a0 : Array Value} (hw : ∀ d ∈ tables_1, d.before a0 Z = true) : (Jvm.Cond.code ({ cls := "com/example/feedback/feedback/search/Bm25", name := "<init>", desc := "(DD)V" } : Jvm.MethodName) prog_36_method_1_code (5 : Nat) (Option.none : Option Jvm.ClassFile.FieldType)).before a0 Z = true := hw _ (List.mem_of_getElem? (i := 12) rfl)
theorem ow11 {Z : State} {a0 : Array Value} (hw : ∀ d ∈ tables_1, d.before a0 Z = true) : (Jvm.Cond.instanceMethod ({ cls := "com/example/feedback/feedback/search/Bm25", name := "<init>", desc := "(DD)V" } : Jvm.MethodName)).before a0 Z = true := hw _ (List.mem_of_getElem? (i := 11) rfl)
theorem ow33 {Z : State} {a0 : Array Value} (hw : ∀ d ∈ tables_1, d.before a0 Z = true) : (Jvm.Cond.methodLink "com/example/feedback/feedback/search/Bm25TfWeightPinLaw" (23 : Nat) ({ cls := "com/example/feedback/feedback/search/Bm25", name := "tfWeight", desc := "(IID)D" } : Jvm.MethodName)).before a0 Z = true := hw _ (List.mem_of_getElem? (i := 33) rfl)
theorem ow37 {Z : State} {a0 : Array Value} (hw : ∀ d ∈ tables_1, d.before a0 Z = true) : (Jvm.Cond.code ({ cls := "com/example/feedback/feedback/search/Bm25", name := "tfWeight", desc := "(IID)D" } : Jvm.MethodName) prog_36_method_3_code (5 : Nat) (Option.some Jvm.ClassFile.FieldType.double)).before a0 Z = true := hw _ (List.mem_of_getElem? (i := 37) rfl)
theorem ow36 {Z : State} {a0 : Array Value} (hw : ∀ d ∈ tables_1, d.before a0 Z = true) : (Jvm.Cond.selects "com/example/feedback/feedback/search/Bm25" ({ cls := "com/example/feedback/feedback/search/Bm25", name := "tfWeight", desc := "(IID)D" } : Jvm.MethodName) ({ cls := "com/example/feedback/feedback/search/Bm25", name := "tfWeight", desc := "(IID)D" } : Jvm.MethodName)).before a0 Z = true := hw _ (List.mem_of_getElem? (i := 36) rfl)
theorem ow34 {Z : State} {a0 : Array Value} (hw : ∀ d ∈ tables_1, d.before a0 Z = true) : (Jvm.Cond.declares ({ cls := "com/example/feedback/feedback/search/Bm25", name := "tfWeight", desc := "(IID)D" } : Jvm.MethodName)).before a0 Z = true := hw _ (List.mem_of_getElem? (i := 34) rfl)
theorem ow35 {Z : State} {a0 : Array Value} (hw : ∀ d ∈ tables_1, d.before a0 Z = true) : (Jvm.Cond.instanceMethod ({ cls := "com/example/feedback/feedback/search/Bm25", name := "tfWeight", desc := "(IID)D" } : Jvm.MethodName)).before a0 Z = true := hw _ (List.mem_of_getElem? (i := 35) rfl)
theorem ow38 {Z : State} {a0 : Array Value} (hw : ∀ d ∈ tables_1, d.before a0 Z = true) : (Jvm.Cond.constantLong "com/example/feedback/feedback/search/Bm25TfWeightPinLaw" (27 : Nat) (8 : Int64)).before a0 Z = true := hw _ (List.mem_of_getElem? (i := 38) rfl)
theorem ow39 {Z : State} {a0 : Array Value} (hw : ∀ d ∈ tables_1, d.before a0 Z = true) : (Jvm.Cond.constantLong "com/example/feedback/feedback/search/Bm25TfWeightPinLaw" (29 : Nat) (32 : Int64)).before a0 Z = true := hw _ (List.mem_of_getElem? (i := 39) rfl)
theorem own_addI {a b : Int32} (h1 : -2147483648 ≤ a.toInt + b.toInt) (h2 : a.toInt + b.toInt < 2147483648) : (a + b).toInt = a.toInt + b.toInt := by
  rw [Int32.toInt_add]; exact Int.bmod_eq_of_le (by omega) (by omega)
theorem own_subI {a b : Int32} (h1 : -2147483648 ≤ a.toInt - b.toInt) (h2 : a.toInt - b.toInt < 2147483648) : (a - b).toInt = a.toInt - b.toInt := by
  rw [Int32.toInt_sub]; exact Int.bmod_eq_of_le (by omega) (by omega)
theorem own_mulI {a b : Int32} (h1 : -2147483648 ≤ a.toInt * b.toInt) (h2 : a.toInt * b.toInt < 2147483648) : (a * b).toInt = a.toInt * b.toInt := by
  rw [Int32.toInt_mul]; exact Int.bmod_eq_of_le (by omega) (by omega)
theorem own_nat32 (x : Int32) (h : 0 ≤ x.toInt) : x.toInt = (x.toBitVec.toNat : Int) := by
  have e : x.toInt = x.toBitVec.toInt := rfl
  rw [BitVec.toInt_eq_toNat_cond] at e
  have := x.toBitVec.isLt
  split at e <;> omega
theorem own_maskI (x m : Int32) (h : 0 ≤ m.toInt) : 0 ≤ (x &&& m).toInt ∧ (x &&& m).toInt ≤ m.toInt := by
  have hm := own_nat32 m h
  have h1 : (x &&& m).toBitVec.toNat ≤ m.toBitVec.toNat := by rw [Int32.toBitVec_and, BitVec.toNat_and]; exact Nat.and_le_right
  have e : (x &&& m).toInt = (x &&& m).toBitVec.toInt := rfl
  have hl := Int32.toInt_lt m
  rw [e, BitVec.toInt_eq_toNat_cond]
  split <;> omega
theorem own_ltI {a b : Int32} : a < b ↔ a.toInt < b.toInt := Int32.lt_iff_toInt_lt
section Dyadic
open Jvm.FP.Core
def own_sh (k : Nat) : Datum → Datum
  | .fin s c q => .fin s c (q + k)
  | .inf s => .inf s
  | .nan => .nan
theorem own_sh_sum (k : Nat) (x y : Datum) : exactSum (own_sh k x) (own_sh k y) = own_sh k (exactSum x y) := by
  cases x <;> cases y <;> try rfl
  · rename_i s t
    show (if s = t then Datum.inf s else Datum.nan) = own_sh k (if s = t then Datum.inf s else Datum.nan)
    split <;> rfl
  · rename_i s c q t d r
    have e : min (q + (k : Int)) (r + (k : Int)) = min q r + (k : Int) := by omega
    have u : sumUnits s c (q + k) t d (r + k) (min q r + k) = sumUnits s c q t d r (min q r) := by
      unfold sumUnits inUnits
      rw [show q + (k : Int) - (min q r + (k : Int)) = q - min q r by omega, show r + (k : Int) - (min q r + (k : Int)) = r - min q r by omega]
    show Datum.fin (sumSign s t (sumUnits s c (q + k) t d (r + k) (min (q + (k : Int)) (r + (k : Int))))) (sumUnits s c (q + k) t d (r + k) (min (q + (k : Int)) (r + (k : Int)))).natAbs (min (q + (k : Int)) (r + (k : Int))) = _
    rw [e, u]; rfl
theorem own_sh_neg (k : Nat) (x : Datum) : negate (own_sh k x) = own_sh k (negate x) := by cases x <;> rfl
theorem own_sh_prod (k l : Nat) (s t : Bool) (c d : Nat) (q r : Int) : exactProduct (own_sh k (.fin s c q)) (own_sh l (.fin t d r)) = own_sh (k + l) (exactProduct (.fin s c q) (.fin t d r)) := by
  show Datum.fin (s != t) (c * d) (q + k + (r + l)) = Datum.fin (s != t) (c * d) (q + r + ((k + l : Nat) : Int))
  congr 1; omega
theorem own_bal {A B x y x' y' : Nat} (h : A * 2 ^ x = B * 2 ^ y) (e : x + y' = x' + y) : A * 2 ^ x' = B * 2 ^ y' := by
  refine Nat.eq_of_mul_eq_mul_right (Nat.two_pow_pos y) ?_
  rw [Nat.mul_assoc, ← Nat.pow_add, ← e, Nat.pow_add, ← Nat.mul_assoc, h, Nat.mul_right_comm]
theorem own_rr {k : Nat} {i : Int} {s : Bool} (hs : i = 0 ∨ s = decide (i < 0)) (hi : i.natAbs ≤ 2 ^ 53) (hk : k ≤ 900) : Whole i (own_sh k (roundRatio b64 s i.natAbs 1 (-(k : Int)))) := by
  have m1 : b64.qmin = -1074 := by decide
  have m2 : b64.qmax = 971 := by decide
  have m3 : b64.tails = 2 ^ 52 := by decide
  have m4 : b64.p = 53 := rfl
  by_cases h0 : i = 0
  · subst h0
    show signed s (0 * 2 ^ _) = 0 * _
    rw [Nat.zero_mul, signed_zero, Int.zero_mul]
  · have hs : s = decide (i < 0) := hs.resolve_left h0
    obtain ⟨c, q, hfit, hv⟩ := natFit good_b64 wide_b64 s (n := i.natAbs) hi
    have W : Whole i (.fin s i.natAbs 0) := by rw [hs]; exact whole_ofInt i
    have w := whole_round good_b64 wide_b64 hi W
    rw [round_whole W, roundRatio_exact good_b64 (by decide) hfit hv] at w
    obtain ⟨f1, f2, f3, f4⟩ := hfit
    have hn : 1 ≤ i.natAbs := by omega
    have hq : -53 < q := by
      refine Int.lt_of_not_ge fun hle => ?_
      have e1 : (0 - q).toNat = 53 + (-q - 53).toNat := by omega
      have e2 : (q - 0).toNat = 0 := by omega
      rw [e1, e2, Nat.pow_add, Nat.pow_zero, Nat.mul_one, Nat.mul_one] at hv
      have p := Nat.two_pow_pos (-q - 53).toNat
      have : 1 * (2 ^ 53 * 1) ≤ i.natAbs * (2 ^ 53 * 2 ^ (-q - 53).toNat) := Nat.mul_le_mul hn (Nat.mul_le_mul (Nat.le_refl _) p)
      rw [m4] at f1; omega
    have f5 : b64.tails ≤ c := by rcases f4 with f4 | f4; omega; exact f4
    have hfit2 : Jvm.FP.Core.fits b64 (Datum.fin s c (q - k)) := ⟨f1, by omega, by omega, Or.inr f5⟩
    rw [roundRatio_exact good_b64 (by decide) hfit2 (by rw [show -(k : Int) - (q - k) = 0 - q by omega, show q - (k : Int) - -(k : Int) = q - 0 by omega]; exact hv)]
    show Whole i (.fin s c (q - k + k))
    rw [show q - (k : Int) + k = q by omega]; exact w
theorem own_round {k : Nat} {i : Int} {d : Datum} (hk : k ≤ 900) (hi : i.natAbs ≤ 2 ^ 53) (h : Whole i (own_sh k d)) : Whole i (own_sh k (round b64 d)) := by
  cases d with
  | nan => exact h.elim
  | inf => exact h.elim
  | fin s c q =>
    have h' : Whole i (.fin s c (q + k)) := h
    have e : round b64 (.fin s c q) = roundRatio b64 s i.natAbs 1 (-(k : Int)) := by
      refine roundRatio_congr (by decide) (by decide) ?_
      have w := whole_natAbs h'
      rw [show q - -(k : Int) = q + k by omega, show -(k : Int) - q = -(q + k) by omega]
      simpa using w
    rw [e]
    refine own_rr ?_ hi hk
    by_cases h0 : i = 0
    · exact Or.inl h0
    · exact Or.inr (whole_sign h' h0)
/-- the double a is i over 2^k -/
def DQ (k : Nat) (i : Int) (a : UInt64) : Prop := Whole i (own_sh k (val64 a))
theorem DQ.cas {k : Nat} {i : Int} {a : UInt64} (h : DQ k i a) : ∃ s c q, val64 a = .fin s c q ∧ Whole i (.fin s c (q + k)) := by
  unfold DQ at h
  cases e : val64 a with
  | nan => rw [e] at h; exact h.elim
  | inf => rw [e] at h; exact h.elim
  | fin s c q => rw [e] at h; exact ⟨s, c, q, rfl, h⟩
theorem DQ.of {i : Int} {a : UInt64} (h : DInt i a) : DQ 0 i a := by
  unfold DInt at h
  unfold DQ
  cases e : val64 a with
  | nan => rw [e] at h; exact h.elim
  | inf => rw [e] at h; exact h.elim
  | fin s c q => rw [e] at h; show Whole i (.fin s c (q + ((0 : Nat) : Int))); rw [show q + ((0 : Nat) : Int) = q by omega]; exact h
theorem DQ.add {k : Nat} {i j : Int} {a b : UInt64} (ha : DQ k i a) (hb : DQ k j b) (hk : k ≤ 900) (h : (i + j).natAbs ≤ 2 ^ 53) : DQ k (i + j) (dadd a b) := by
  unfold DQ; rw [val64_dadd]; refine own_round hk h ?_; rw [← own_sh_sum]; exact whole_sum ha hb
theorem DQ.sub {k : Nat} {i j : Int} {a b : UInt64} (ha : DQ k i a) (hb : DQ k j b) (hk : k ≤ 900) (h : (i - j).natAbs ≤ 2 ^ 53) : DQ k (i - j) (dsub a b) := by
  unfold DQ; rw [val64_dsub]; refine own_round hk h ?_; rw [← own_sh_sum, ← own_sh_neg, Int.sub_eq_add_neg]; exact whole_sum ha (whole_negate hb)
theorem DQ.mul {k l : Nat} {i j : Int} {a b : UInt64} (ha : DQ k i a) (hb : DQ l j b) (hk : k + l ≤ 900) (h : (i * j).natAbs ≤ 2 ^ 53) : DQ (k + l) (i * j) (dmul a b) := by
  obtain ⟨s, c, q, ea, wa⟩ := ha.cas
  obtain ⟨t, d, r, eb, wb⟩ := hb.cas
  unfold DQ; rw [val64_dmul]; refine own_round hk h ?_
  rw [ea, eb, ← own_sh_prod]; exact whole_product wa wb
theorem DQ.up {k : Nat} {i : Int} {a : UInt64} (m : Nat) (ha : DQ k i a) : DQ (k + m) (i * ((2 ^ m : Nat) : Int)) a := by
  obtain ⟨s, c, q, ea, wa⟩ := ha.cas
  unfold DQ; rw [ea]
  have h1 : signed s (c * 2 ^ (q + k).toNat) = i * ((2 ^ (-(q + k)).toNat : Nat) : Int) := wa
  show signed s (c * 2 ^ (q + ((k + m : Nat) : Int)).toNat) = i * ((2 ^ m : Nat) : Int) * ((2 ^ (-(q + ((k + m : Nat) : Int))).toNat : Nat) : Int)
  have p2 : ((2 ^ (-(q + k)).toNat : Nat) : Int) ≠ 0 := by have := Nat.two_pow_pos (-(q + (k : Int))).toNat; omega
  refine Int.eq_of_mul_eq_mul_right p2 ?_
  have hx : (q + ((k + m : Nat) : Int)).toNat + (-(q + (k : Int))).toNat = (q + (k : Int)).toNat + (m + (-(q + ((k + m : Nat) : Int))).toNat) := by omega
  calc signed s (c * 2 ^ (q + ((k + m : Nat) : Int)).toNat) * ((2 ^ (-(q + k)).toNat : Nat) : Int)
      = signed s (c * 2 ^ (q + (k : Int)).toNat * 2 ^ (m + (-(q + ((k + m : Nat) : Int))).toNat)) := by
        rw [← signed_mul, Nat.mul_assoc, ← Nat.pow_add, hx, Nat.pow_add, Nat.mul_assoc]
    _ = i * ((2 ^ m : Nat) : Int) * ((2 ^ (-(q + ((k + m : Nat) : Int))).toNat : Nat) : Int) * ((2 ^ (-(q + k)).toNat : Nat) : Int) := by
        rw [signed_mul, h1, Nat.pow_add, Int.natCast_mul]; ac_rfl
theorem DQ.divP {k m : Nat} {i : Int} {a b : UInt64} (ha : DQ k i a) (hb : DQ 0 ((2 ^ m : Nat) : Int) b) (hk : k + m ≤ 900) (h : i.natAbs ≤ 2 ^ 53) : DQ (k + m) i (ddiv a b) := by
  obtain ⟨s, c, q, ea, wa⟩ := ha.cas
  obtain ⟨t, d, r, eb, wb⟩ := hb.cas
  have p := Nat.two_pow_pos m
  have ht : t = false := by rw [whole_sign wb (by omega)]; exact decide_eq_false (by omega)
  have hd : d ≠ 0 := fun q => by have := (whole_zero wb).mp q; omega
  subst ht
  unfold DQ; rw [val64_ddiv, ea, eb]
  have e : quotient b64 (.fin s c q) (.fin false d r) = roundRatio b64 s i.natAbs 1 (-((k + m : Nat) : Int)) := by
    show (if d = 0 then _ else roundRatio b64 (s != false) c d (q - r)) = _
    rw [if_neg hd, show (s != false) = s by cases s <;> rfl]
    refine roundRatio_congr (by omega) (by decide) ?_
    have w1 := whole_natAbs wa
    have w2 := whole_natAbs wb
    rw [Int.natAbs_natCast] at w2
    rw [Nat.mul_one]
    refine own_bal (x := (q + (k : Int)).toNat + (m + (-(r + ((0 : Nat) : Int))).toNat)) (y := (-(q + (k : Int))).toNat + (r + ((0 : Nat) : Int)).toNat) ?_ (by omega)
    calc c * 2 ^ ((q + (k : Int)).toNat + (m + (-(r + ((0 : Nat) : Int))).toNat)) = (c * 2 ^ (q + (k : Int)).toNat) * (2 ^ m * 2 ^ (-(r + ((0 : Nat) : Int))).toNat) := by rw [Nat.pow_add, Nat.pow_add]; ac_rfl
      _ = (i.natAbs * 2 ^ (-(q + (k : Int))).toNat) * (d * 2 ^ (r + ((0 : Nat) : Int)).toNat) := by rw [w1, w2]
      _ = i.natAbs * d * 2 ^ ((-(q + (k : Int))).toNat + (r + ((0 : Nat) : Int)).toNat) := by rw [Nat.pow_add]; ac_rfl
  rw [e]
  refine own_rr ?_ h hk
  by_cases h0 : i = 0
  · exact Or.inl h0
  · exact Or.inr (whole_sign wa h0)
theorem DQ.quo {k : Nat} {i j : Int} {a b a' b' : UInt64} (ha : DQ k i a) (hb : DQ k j b) (ha' : DQ 0 i a') (hb' : DQ 0 j b') (hi : i ≠ 0) (hj : j ≠ 0) : ddiv a b = ddiv a' b' := by
  obtain ⟨s, c, q, ea, wa⟩ := ha.cas
  obtain ⟨t, d, r, eb, wb⟩ := hb.cas
  obtain ⟨s', c', q', ea', wa'⟩ := ha'.cas
  obtain ⟨t', d', r', eb', wb'⟩ := hb'.cas
  have hd : d ≠ 0 := fun q => by have := (whole_zero wb).mp q; omega
  have hd' : d' ≠ 0 := fun q => by have := (whole_zero wb').mp q; omega
  show of64 (quotient b64 (val64 a) (val64 b)) = of64 (quotient b64 (val64 a') (val64 b'))
  rw [ea, eb, ea', eb']
  show of64 (if d = 0 then _ else roundRatio b64 (s != t) c d (q - r)) = of64 (if d' = 0 then _ else roundRatio b64 (s' != t') c' d' (q' - r'))
  rw [if_neg hd, if_neg hd', whole_sign wa hi, whole_sign wb hj, whole_sign wa' hi, whole_sign wb' hj]
  have w1 := whole_natAbs wa
  have w2 := whole_natAbs wb
  have w3 := whole_natAbs wa'
  have w4 := whole_natAbs wb'
  congr 1
  refine roundRatio_congr (by omega) (by omega) ?_
  have z : ((0 : Nat) : Int) = 0 := rfl
  refine own_bal (x := ((q + (k : Int)).toNat + (-(q' + ((0 : Nat) : Int))).toNat) + ((r' + ((0 : Nat) : Int)).toNat + (-(r + (k : Int))).toNat)) (y := ((q' + ((0 : Nat) : Int)).toNat + (-(q + (k : Int))).toNat) + ((r + (k : Int)).toNat + (-(r' + ((0 : Nat) : Int))).toNat)) ?_ (by omega)
  calc c * d' * 2 ^ (((q + (k : Int)).toNat + (-(q' + ((0 : Nat) : Int))).toNat) + ((r' + ((0 : Nat) : Int)).toNat + (-(r + (k : Int))).toNat))
      = (c * 2 ^ (q + (k : Int)).toNat) * 2 ^ (-(q' + ((0 : Nat) : Int))).toNat * ((d' * 2 ^ (r' + ((0 : Nat) : Int)).toNat) * 2 ^ (-(r + (k : Int))).toNat) := by rw [Nat.pow_add, Nat.pow_add, Nat.pow_add]; ac_rfl
    _ = (i.natAbs * 2 ^ (-(q' + ((0 : Nat) : Int))).toNat) * 2 ^ (-(q + (k : Int))).toNat * ((j.natAbs * 2 ^ (-(r + (k : Int))).toNat) * 2 ^ (-(r' + ((0 : Nat) : Int))).toNat) := by rw [w1, w4]; ac_rfl
    _ = (c' * 2 ^ (q' + ((0 : Nat) : Int)).toNat) * 2 ^ (-(q + (k : Int))).toNat * ((d * 2 ^ (r + (k : Int)).toNat) * 2 ^ (-(r' + ((0 : Nat) : Int))).toNat) := by rw [← w3, ← w2]
    _ = c' * d * 2 ^ (((q' + ((0 : Nat) : Int)).toNat + (-(q + (k : Int))).toNat) + ((r + (k : Int)).toNat + (-(r' + ((0 : Nat) : Int))).toNat)) := by rw [Nat.pow_add, Nat.pow_add, Nat.pow_add]; ac_rfl
theorem own_sh_order (k : Nat) (s t : Bool) (c d : Nat) (q r : Int) : order (own_sh k (.fin s c q)) (own_sh k (.fin t d r)) = order (.fin s c q) (.fin t d r) := by
  show some (compare (signed s (inUnits c (q + k) (min (q + (k : Int)) (r + (k : Int))))) (signed t (inUnits d (r + k) (min (q + (k : Int)) (r + (k : Int)))))) = _
  have e : min (q + (k : Int)) (r + (k : Int)) = min q r + (k : Int) := by omega
  rw [e]; unfold inUnits
  rw [show q + (k : Int) - (min q r + (k : Int)) = q - min q r by omega, show r + (k : Int) - (min q r + (k : Int)) = r - min q r by omega]; rfl
theorem DQ.cmp {k : Nat} {i j : Int} {a b : UInt64} (ha : DQ k i a) (hb : DQ k j b) : Jvm.FP.dcmp a b = some (compare i j) := by
  obtain ⟨s, c, q, ea, wa⟩ := ha.cas
  obtain ⟨t, d, r, eb, wb⟩ := hb.cas
  show order (val64 a) (val64 b) = _
  rw [ea, eb, ← own_sh_order k]; exact order_whole wa wb
theorem DQ.inf {k : Nat} {i : Int} {a : UInt64} (ha : DQ k i a) : Jvm.FP.dcmp a 9218868437227405312 = some .lt := by
  obtain ⟨s, c, q, ea, wa⟩ := ha.cas
  have e : val64 9218868437227405312 = .inf false := by decide +kernel
  show order (val64 a) (val64 9218868437227405312) = _
  rw [ea, e]; rfl
theorem DQ.nn {k : Nat} {i : Int} {a : UInt64} (ha : DQ k i a) : Jvm.Free.Fl.NoNaN64 a := by
  obtain ⟨s, c, q, ea, wa⟩ := ha.cas
  refine Jvm.Free.Fl.noNaN64_no.mpr ?_
  cases e : dIsNaN a with
  | false => rfl
  | true => rw [dIsNaN_iff, ea] at e; cases e
theorem own_rn (s : Bool) (A B : Nat) (e : Int) : roundRatio b64 s A B e ≠ .nan := by
  unfold roundRatio roundAt settle bound
  split
  · intro h; cases h
  · split
    · split <;> (intro h; cases h)
    · split <;> (intro h; cases h)
theorem DQ.qn {k l : Nat} {i j : Int} {a b : UInt64} (ha : DQ k i a) (hb : DQ l j b) (hj : j ≠ 0) : Jvm.Free.Fl.NoNaN64 (Jvm.FP.ddiv a b) := by
  obtain ⟨s, c, q, ea, wa⟩ := ha.cas
  obtain ⟨t, d, r, eb, wb⟩ := hb.cas
  have hd : d ≠ 0 := fun q => by have := (whole_zero wb).mp q; omega
  refine Jvm.Free.Fl.noNaN64_no.mpr ?_
  cases e : dIsNaN (ddiv a b) with
  | false => rfl
  | true =>
    rw [dIsNaN_iff, val64_ddiv, ea, eb] at e
    have e' : (if d = 0 then (if c = 0 then Datum.nan else .inf (s != t)) else roundRatio b64 (s != t) c d (q - r)) = .nan := e
    rw [if_neg hd] at e'; exact absurd e' (own_rn _ _ _ _)
theorem DQ.zero (k : Nat) : DQ k 0 Jvm.FP.dconst0 := by
  show Whole 0 (own_sh k (val64 dconst0))
  rw [val64_dconst0]
  show signed false (0 * 2 ^ _) = 0 * _
  rw [Nat.zero_mul, Int.zero_mul]; rfl
theorem DQ.one : DQ 0 1 Jvm.FP.dconst1 := by
  show Whole 1 (own_sh 0 (val64 dconst1))
  rw [val64_dconst1]
  show signed false (2 ^ 52 * 2 ^ ((-52 : Int) + ((0 : Nat) : Int)).toNat) = 1 * ((2 ^ (-((-52 : Int) + ((0 : Nat) : Int))).toNat : Nat) : Int)
  decide +kernel
theorem DQ.four : DQ 0 ((2 ^ 2 : Nat) : Int) 4616189618054758400 := by
  have e : val64 4616189618054758400 = .fin false (2 ^ 52) (-50) := by decide +kernel
  unfold DQ; rw [e]
  show signed false (2 ^ 52 * 2 ^ ((-50 : Int) + ((0 : Nat) : Int)).toNat) = ((2 ^ 2 : Nat) : Int) * ((2 ^ (-((-50 : Int) + ((0 : Nat) : Int))).toNat : Nat) : Int)
  decide +kernel
theorem DQ.eight : DQ 0 ((2 ^ 3 : Nat) : Int) 4620693217682128896 := by
  have e : val64 4620693217682128896 = .fin false (2 ^ 52) (-49) := by decide +kernel
  unfold DQ; rw [e]
  show signed false (2 ^ 52 * 2 ^ ((-49 : Int) + ((0 : Nat) : Int)).toNat) = ((2 ^ 3 : Nat) : Int) * ((2 ^ (-((-49 : Int) + ((0 : Nat) : Int))).toNat : Nat) : Int)
  decide +kernel
end Dyadic
section Law
open Jvm.FP.Core
theorem own_pb {a b A B : Int} (h1 : 0 ≤ a) (h2 : a ≤ A) (h3 : 0 ≤ b) (h4 : b ≤ B) : 0 ≤ a * b ∧ a * b ≤ A * B := ⟨Int.mul_nonneg h1 h3, Int.mul_le_mul h2 h4 h3 (Int.le_trans h1 h2)⟩
theorem own_mul64 {x y : Int64} {X Y : Int} (hx : x.toInt = X) (hy : y.toInt = Y) (h0 : 0 ≤ X * Y) (h1 : X * Y < 9223372036854775808) : (x * y).toInt = X * Y := by
  rw [Int64.toInt_mul, hx, hy]; exact Int.bmod_eq_of_le (by omega) (by omega)
theorem own_add64 {x y : Int64} {X Y : Int} (hx : x.toInt = X) (hy : y.toInt = Y) (h0 : 0 ≤ X + Y) (h1 : X + Y < 9223372036854775808) : (x + y).toInt = X + Y := by
  rw [Int64.toInt_add, hx, hy]; exact Int.bmod_eq_of_le (by omega) (by omega)
abbrev own_k (i : Int32) : UInt64 := Jvm.FP.ddiv (Jvm.FP.i2d i) 4616189618054758400
abbrev own_b (j : Int32) : UInt64 := Jvm.FP.ddiv (Jvm.FP.i2d j) 4620693217682128896
abbrev own_t2 (u : UInt64) (f : Int32) : UInt64 := Jvm.FP.dmul (Jvm.FP.dadd u Jvm.FP.dconst1) (Jvm.FP.i2d f)
abbrev own_t6 (b : UInt64) (l : Int32) (av : UInt64) : UInt64 := Jvm.FP.dadd (Jvm.FP.dsub Jvm.FP.dconst1 b) (Jvm.FP.ddiv (Jvm.FP.dmul b (Jvm.FP.i2d l)) av)
abbrev own_t8 (u b : UInt64) (f l : Int32) (av : UInt64) : UInt64 := Jvm.FP.dadd (Jvm.FP.i2d f) (Jvm.FP.dmul u (own_t6 b l av))
abbrev own_tf (u b : UInt64) (f l : Int32) (av : UInt64) : UInt64 := Jvm.FP.ddiv (own_t2 u f) (own_t8 u b f l av)
abbrev own_m (j l : Int32) (pw : Int64) : Int64 := (((8 : Int32) - j).toInt64 * pw) + (j.toInt64 * l.toInt64)
abbrev own_a (i f : Int32) (pw : Int64) : Int64 := (((i + (4 : Int32)).toInt64 * f.toInt64) * (8 : Int64)) * pw
abbrev own_d (i f : Int32) (pw m : Int64) : Int64 := ((f.toInt64 * (32 : Int64)) * pw) + (i.toInt64 * m)
/-- no operation of tfWeight ends in a NaN -/
def own_nn (u b : UInt64) (f l : Int32) (av : UInt64) : Prop :=
  Jvm.Free.Fl.NoNaN64 (Jvm.FP.dadd u Jvm.FP.dconst1) ∧ Jvm.Free.Fl.NoNaN64 (own_t2 u f) ∧ Jvm.Free.Fl.NoNaN64 (Jvm.FP.dsub Jvm.FP.dconst1 b) ∧ Jvm.Free.Fl.NoNaN64 (Jvm.FP.dmul b (Jvm.FP.i2d l)) ∧ Jvm.Free.Fl.NoNaN64 (Jvm.FP.ddiv (Jvm.FP.dmul b (Jvm.FP.i2d l)) av) ∧ Jvm.Free.Fl.NoNaN64 (own_t6 b l av) ∧ Jvm.Free.Fl.NoNaN64 (Jvm.FP.dmul u (own_t6 b l av)) ∧ Jvm.Free.Fl.NoNaN64 (own_t8 u b f l av) ∧ Jvm.Free.Fl.NoNaN64 (own_tf u b f l av)
theorem own_gen {i j f l : Int32} {E : Nat} {av : UInt64} {pw : Int64} (hi : 0 ≤ i.toInt ∧ i.toInt ≤ 15) (hj : 0 ≤ j.toInt ∧ j.toInt ≤ 8) (hE : E ≤ 7) (hf : 1 ≤ f.toInt) (hl : 0 ≤ l.toInt) (hav : DQ 0 ((2 ^ E : Nat) : Int) av) (hpw : pw.toInt = ((2 ^ E : Nat) : Int)) :
    own_nn (own_k i) (own_b j) f l av ∧ own_tf (own_k i) (own_b j) f l av = Jvm.FP.ddiv (Jvm.FP.l2d (own_a i f pw)) (Jvm.FP.l2d (own_d i f pw (own_m j l pw))) := by
  have hf2 : f.toInt ≤ 2147483647 := by have := Int32.toInt_lt f; omega
  have hl2 : l.toInt ≤ 2147483647 := by have := Int32.toInt_lt l; omega
  have hP : 1 ≤ ((2 ^ E : Nat) : Int) ∧ ((2 ^ E : Nat) : Int) ≤ 128 := by
    have a1 := Nat.two_pow_pos E
    have a2 : 2 ^ E ≤ 2 ^ 7 := Nat.pow_le_pow_right (by decide) hE
    omega
  have e8 : ((2 ^ (3 + E) : Nat) : Int) = 8 * ((2 ^ E : Nat) : Int) := by rw [Nat.pow_add]; omega
  have e32 : ((2 ^ (2 + (3 + E)) : Nat) : Int) = 32 * ((2 ^ E : Nat) : Int) := by rw [Nat.pow_add, Nat.pow_add]; omega
  have p53 : (2 : Nat) ^ 53 = 9007199254740992 := by decide
  have dk : DQ 2 i.toInt (own_k i) := (DQ.of (i2d_int i)).divP DQ.four (by decide) (by omega)
  have db : DQ 3 j.toInt (own_b j) := (DQ.of (i2d_int j)).divP DQ.eight (by decide) (by omega)
  have u4 : DQ 2 4 Jvm.FP.dconst1 := DQ.one.up 2
  have u8 : DQ 3 8 Jvm.FP.dconst1 := DQ.one.up 3
  have dF : DQ 0 f.toInt (Jvm.FP.i2d f) := DQ.of (i2d_int f)
  have dL : DQ 0 l.toInt (Jvm.FP.i2d l) := DQ.of (i2d_int l)
  have bX := own_pb (a := i.toInt + 4) (A := 19) (b := f.toInt) (by omega) (by omega) (by omega) hf2
  have bY := own_pb (b := l.toInt) hj.1 hj.2 hl hl2
  have bV := own_pb (a := 8 - j.toInt) (A := 8) (b := ((2 ^ E : Nat) : Int)) (by omega) (by omega) (by omega) hP.2
  have bW := own_pb (b := (8 - j.toInt) * ((2 ^ E : Nat) : Int) + j.toInt * l.toInt) (B := 17179870200) hi.1 hi.2 (by omega) (by omega)
  have pX : 0 < (i.toInt + 4) * f.toInt := Int.mul_pos (by omega) (by omega)
  have d1 : DQ 2 (i.toInt + 4) (Jvm.FP.dadd (own_k i) Jvm.FP.dconst1) := dk.add u4 (by decide) (by omega)
  have d2 : DQ 2 ((i.toInt + 4) * f.toInt) (own_t2 (own_k i) f) := d1.mul dF (by decide) (by omega)
  have d3 : DQ 3 (8 - j.toInt) (Jvm.FP.dsub Jvm.FP.dconst1 (own_b j)) := u8.sub db (by decide) (by omega)
  have d4 : DQ 3 (j.toInt * l.toInt) (Jvm.FP.dmul (own_b j) (Jvm.FP.i2d l)) := db.mul dL (by decide) (by omega)
  have d5 : DQ (3 + E) (j.toInt * l.toInt) (Jvm.FP.ddiv (Jvm.FP.dmul (own_b j) (Jvm.FP.i2d l)) av) := d4.divP hav (by omega) (by omega)
  have d6 : DQ (3 + E) ((8 - j.toInt) * ((2 ^ E : Nat) : Int) + j.toInt * l.toInt) (own_t6 (own_b j) l av) := (d3.up E).add d5 (by omega) (by omega)
  have d7 := dk.mul d6 (by omega) (by omega)
  have dF2 := dF.up (2 + (3 + E))
  rw [Nat.zero_add, e32] at dF2
  have bF := own_pb (a := f.toInt) (b := 32 * ((2 ^ E : Nat) : Int)) (B := 4096) (by omega) hf2 (by omega) (by omega)
  have pF : 0 < f.toInt * (32 * ((2 ^ E : Nat) : Int)) := Int.mul_pos (by omega) (by omega)
  have d8 := dF2.add d7 (by omega) (by omega)
  have dN := d2.up (3 + E)
  rw [e8] at dN
  have bN := own_pb (a := (i.toInt + 4) * f.toInt) (b := 8 * ((2 ^ E : Nat) : Int)) (B := 1024) (by omega) bX.2 (by omega) (by omega)
  have pN : 0 < (i.toInt + 4) * f.toInt * (8 * ((2 ^ E : Nat) : Int)) := Int.mul_pos pX (by omega)
  have c4 : (i + (4 : Int32)).toInt64.toInt = i.toInt + 4 := by
    rw [Int32.toInt_toInt64, Int32.toInt_add]; exact Int.bmod_eq_of_le (by have : (4 : Int32).toInt = 4 := rfl; omega) (by have : (4 : Int32).toInt = 4 := rfl; omega)
  have c8 : ((8 : Int32) - j).toInt64.toInt = 8 - j.toInt := by
    rw [Int32.toInt_toInt64, Int32.toInt_sub]; exact Int.bmod_eq_of_le (by have : (8 : Int32).toInt = 8 := rfl; omega) (by have : (8 : Int32).toInt = 8 := rfl; omega)
  have k8 : (8 : Int64).toInt = 8 := rfl
  have k32 : (32 : Int64).toInt = 32 := rfl
  have mA : (own_a i f pw).toInt = (i.toInt + 4) * f.toInt * (8 * ((2 ^ E : Nat) : Int)) := by
    have h1 := own_mul64 c4 (Int32.toInt_toInt64 f) (by omega) (by omega)
    have h2 := own_mul64 h1 k8 (by omega) (by omega)
    have q : (i.toInt + 4) * f.toInt * 8 * ((2 ^ E : Nat) : Int) = (i.toInt + 4) * f.toInt * (8 * ((2 ^ E : Nat) : Int)) := Int.mul_assoc ..
    have h3 := own_mul64 h2 hpw (by omega) (by omega)
    rw [← q]; exact h3
  have mM : (own_m j l pw).toInt = (8 - j.toInt) * ((2 ^ E : Nat) : Int) + j.toInt * l.toInt :=
    own_add64 (own_mul64 c8 hpw (by omega) (by omega)) (own_mul64 (Int32.toInt_toInt64 j) (Int32.toInt_toInt64 l) (by omega) (by omega)) (by omega) (by omega)
  have mD : (own_d i f pw (own_m j l pw)).toInt = f.toInt * (32 * ((2 ^ E : Nat) : Int)) + i.toInt * ((8 - j.toInt) * ((2 ^ E : Nat) : Int) + j.toInt * l.toInt) := by
    have h1 := own_mul64 (Int32.toInt_toInt64 f) k32 (by omega) (by omega)
    have q : f.toInt * 32 * ((2 ^ E : Nat) : Int) = f.toInt * (32 * ((2 ^ E : Nat) : Int)) := Int.mul_assoc ..
    have h2 := own_mul64 h1 hpw (by omega) (by omega)
    rw [q] at h2
    exact own_add64 h2 (own_mul64 (Int32.toInt_toInt64 i) mM (by omega) (by omega)) (by omega) (by omega)
  have dA : DQ 0 ((i.toInt + 4) * f.toInt * (8 * ((2 ^ E : Nat) : Int))) (Jvm.FP.l2d (own_a i f pw)) := by rw [← mA]; exact DQ.of (l2d_int (by omega))
  have dD : DQ 0 (f.toInt * (32 * ((2 ^ E : Nat) : Int)) + i.toInt * ((8 - j.toInt) * ((2 ^ E : Nat) : Int) + j.toInt * l.toInt)) (Jvm.FP.l2d (own_d i f pw (own_m j l pw))) := by rw [← mD]; exact DQ.of (l2d_int (by omega))
  exact ⟨⟨d1.nn, d2.nn, d3.nn, d4.nn, d5.nn, d6.nn, d7.nn, d8.nn, dN.qn d8 (by omega)⟩, DQ.quo dN d8 dA dD (by omega) (by omega)⟩
end Law
section Law2
open Jvm.FP.Core
def own_max (x y : Int32) : Int32 := if x < y then y else x
theorem own_q1 (x : Int32) : 0 ≤ (x &&& (15 : Int32)).toInt ∧ (x &&& (15 : Int32)).toInt ≤ 15 := own_maskI x 15 (by decide)
theorem own_q2 (x : Int32) : 0 ≤ ((x &&& (2147483647 : Int32)) % (9 : Int32)).toInt ∧ ((x &&& (2147483647 : Int32)) % (9 : Int32)).toInt ≤ 8 := by
  have h := own_maskI x 2147483647 (by decide)
  have e : ((x &&& (2147483647 : Int32)) % (9 : Int32)).toInt = (x &&& (2147483647 : Int32)).toInt.tmod 9 := Int32.toInt_mod _ _
  rw [e, Int.tmod_eq_emod_of_nonneg h.1]; omega
theorem own_q3 (x : Int32) : 0 ≤ (x &&& (7 : Int32)).toInt ∧ (x &&& (7 : Int32)).toInt ≤ 7 := own_maskI x 7 (by decide)
theorem own_q4 (x : Int32) : 1 ≤ (own_max (1 : Int32) (x &&& (2147483647 : Int32))).toInt := by
  unfold own_max
  have e1 : (1 : Int32).toInt = 1 := rfl
  split
  · rename_i h; rw [own_ltI] at h; omega
  · omega
theorem own_q5 (x : Int32) : 0 ≤ (x &&& (2147483647 : Int32)).toInt := (own_maskI x 2147483647 (by decide)).1
abbrev own_F (i j e f l : Int32) : Prop := own_nn (own_k i) (own_b j) f l (Jvm.FP.i2d ((1 : Int32) <<< (e &&& 31))) ∧ own_tf (own_k i) (own_b j) f l (Jvm.FP.i2d ((1 : Int32) <<< (e &&& 31))) = Jvm.FP.ddiv (Jvm.FP.l2d (own_a i f ((1 : Int64) <<< (e &&& 0x3f).toInt64))) (Jvm.FP.l2d (own_d i f ((1 : Int64) <<< (e &&& 0x3f).toInt64) (own_m j l ((1 : Int64) <<< (e &&& 0x3f).toInt64))))
theorem own_fin {i j e f l : Int32} (hi : 0 ≤ i.toInt ∧ i.toInt ≤ 15) (hj : 0 ≤ j.toInt ∧ j.toInt ≤ 8) (he : 0 ≤ e.toInt ∧ e.toInt ≤ 7) (hf : 1 ≤ f.toInt) (hl : 0 ≤ l.toInt) : own_F i j e f l := by
  have c : e.toInt = 0 ∨ e.toInt = 1 ∨ e.toInt = 2 ∨ e.toInt = 3 ∨ e.toInt = 4 ∨ e.toInt = 5 ∨ e.toInt = 6 ∨ e.toInt = 7 := by omega
  have go : ∀ (E : Nat) (z : Int32), e = z → E ≤ 7 → ((1 : Int32) <<< (z &&& 31)).toInt = ((2 ^ E : Nat) : Int) → ((1 : Int64) <<< (z &&& 0x3f).toInt64).toInt = ((2 ^ E : Nat) : Int) → own_F i j e f l := fun E z q hE h1 h2 => by
    subst q
    refine own_gen (E := E) (av := Jvm.FP.i2d ((1 : Int32) <<< (e &&& 31))) hi hj hE hf hl ?_ h2
    rw [← h1]; exact DQ.of (i2d_int _)
  rcases c with c | c | c | c | c | c | c | c
  · exact go 0 0 (Int32.toInt_inj.mp c) (by decide) (by decide) (by decide)
  · exact go 1 1 (Int32.toInt_inj.mp c) (by decide) (by decide) (by decide)
  · exact go 2 2 (Int32.toInt_inj.mp c) (by decide) (by decide) (by decide)
  · exact go 3 3 (Int32.toInt_inj.mp c) (by decide) (by decide) (by decide)
  · exact go 4 4 (Int32.toInt_inj.mp c) (by decide) (by decide) (by decide)
  · exact go 5 5 (Int32.toInt_inj.mp c) (by decide) (by decide) (by decide)
  · exact go 6 6 (Int32.toInt_inj.mp c) (by decide) (by decide) (by decide)
  · exact go 7 7 (Int32.toInt_inj.mp c) (by decide) (by decide) (by decide)
theorem own_kq {i : Int32} (hi : 0 ≤ i.toInt ∧ i.toInt ≤ 15) : DQ 2 i.toInt (own_k i) := (DQ.of (i2d_int i)).divP DQ.four (by decide) (Nat.le_trans (m := 15) (by omega) (by decide))
theorem own_bq {j : Int32} (hj : 0 ≤ j.toInt ∧ j.toInt ≤ 8) : DQ 3 j.toInt (own_b j) := (DQ.of (i2d_int j)).divP DQ.eight (by decide) (Nat.le_trans (m := 15) (by omega) (by decide))
theorem own_c1 {i : Int32} (hi : 0 ≤ i.toInt ∧ i.toInt ≤ 15) : ∃ o, Jvm.FP.dcmp (own_k i) Jvm.FP.dconst0 = some o ∧ ¬ (Jvm.FP.cmpInt 0 (some o) < (0 : Int32)) := by
  refine ⟨_, (own_kq hi).cmp (DQ.zero 2), ?_⟩
  have : compare i.toInt 0 ≠ .lt := fun h => by rw [Int.compare_eq_lt] at h; omega
  revert this
  cases compare i.toInt 0 <;> intro h
  · exact absurd rfl h
  · decide
  · decide
theorem own_c3 {j : Int32} (hj : 0 ≤ j.toInt ∧ j.toInt ≤ 8) : ∃ o, Jvm.FP.dcmp (own_b j) Jvm.FP.dconst0 = some o ∧ ¬ (Jvm.FP.cmpInt 0 (some o) < (0 : Int32)) := by
  refine ⟨_, (own_bq hj).cmp (DQ.zero 3), ?_⟩
  have : compare j.toInt 0 ≠ .lt := fun h => by rw [Int.compare_eq_lt] at h; omega
  revert this
  cases compare j.toInt 0 <;> intro h
  · exact absurd rfl h
  · decide
  · decide
theorem own_c4 {j : Int32} (hj : 0 ≤ j.toInt ∧ j.toInt ≤ 8) : ∃ o, Jvm.FP.dcmp (own_b j) Jvm.FP.dconst1 = some o ∧ ¬ ((0 : Int32) < Jvm.FP.cmpInt 0 (some o)) := by
  have u8 : DQ 3 8 Jvm.FP.dconst1 := DQ.one.up 3
  refine ⟨_, (own_bq hj).cmp u8, ?_⟩
  have : compare j.toInt 8 ≠ .gt := fun h => by rw [Int.compare_eq_gt] at h; omega
  revert this
  cases compare j.toInt 8 <;> intro h
  · decide
  · decide
  · exact absurd rfl h
theorem own_eq {x y : UInt64} (h : x = y) (n : Jvm.Free.Fl.NoNaN64 x) : Jvm.FP.dcmp x y = some .eq := by
  subst h
  refine dcmp_self fun q => ?_
  have := Jvm.Free.Fl.noNaN64_no.mp n
  rw [(dIsNaN_iff x).mpr q] at this; cases this
end Law2
section L2d
variable {tb : Tables} [Ours tb] {e : Env} {below : List Frame} {T target : State} {m : MethodId} {c : Code} {g : JFrame}
theorem own_l2d (h : At T m c below) (hx : tb.exec = Jvm.exec) (hg : g.method = m) {x : Int64} {rest : List Value} (hd : decode c.code g.pc = .ok (.l2d, 1)) (hs : g.stack = .long x :: rest) (hr : Steps tb e below (T.setTop { g with pc := g.pc + 1, stack := .double (FP.l2d x) :: rest }) target) : Steps tb e below (T.setTop g) target := by
  subst hg
  jvm_step h [h.top, hx, hd, hs]
  exact hr
theorem own_dstore (h : At T m c below) (hx : tb.exec = Jvm.exec) (hg : g.method = m) {k : Nat} {x : UInt64} {rest : List Value} {l' : Array Slot} (hd : decode c.code g.pc = .ok (.dstore k, 2)) (hs : g.stack = .double x :: rest) (hl : storeLocals g.locals k (.double x) = some l') (hr : Steps tb e below (T.setTop { g with pc := g.pc + 2, locals := l', stack := rest }) target) : Steps tb e below (T.setTop g) target := by
  subst hg
  jvm_step h [h.top, hx, hd, hs, hl]
  exact hr
end L2d

section OwnW
variable {p : Program} {l : Launch} {e : Env} {R : Room} {s : State} {m : MethodId} {args : Array Value} {below : List Frame} {meth : Method} {c : Code} {T T' : State} {locs : List Loc} {cells slots cc nn : Nat} {f f' : JFrame} {Q : Option Value → Heap → Vm → List Loc → Prop} {Z B : State} {h h' : Heap} {a0 : Array Value}
/-- the same where String constants may have been loaded since the start -/
def own_EndsW (p : Program) (e : Env) (below : List Frame) (s : State) (Q : Option Value → Heap → Vm → List Loc → Prop) (cc nn : Nat) (T : State) (f : JFrame) : Prop :=
  ∃ s₂ o, Steps p.tables e below (T.setTop f) s₂ ∧ s₂.status = .running ∧ Ended s₂ below o ∧ ∃ v L, o = .returned v ∧ Q v s₂.heap s₂.vm L ∧ ReturnedEndW s o s₂ L cc nn
theorem own_goW (k : ∀ t, Steps p.tables e below (T'.setTop f') t → Steps p.tables e below (T.setTop f) t) (h : own_EndsW p e below s Q cc nn T' f') : own_EndsW p e below s Q cc nn T f := by
  obtain ⟨s₂, o, h1, h2⟩ := h
  exact ⟨s₂, o, k _ h1, h2⟩
theorem own_retW {vm₁ : Vm} {n : Nat} (X : Stand p l e R (s.setVm vm₁) m args below meth c T locs cells slots) (hS : s.Since vm₁ n) (hn : n ≤ T.heap.size) {v : Option Value} (hv : meth.sig.returnType = none → v = none) (hlk : meth.locks = false)
    (st : ∀ fs, (∀ (f : JFrame) (acts : List Action), f.method = m → f.locked = none → f.entered = [] → (doReturn e (T.setTop f) acts v).1 = T.setFrames fs) → Steps p.tables e below (T.setTop f) (T.setFrames fs)) (hQ : Q v T.heap T.vm locs) (h1 : cells ≤ cc) (h2 : slots ≤ nn) :
    own_EndsW p e below s Q cc nn T f := by
  obtain ⟨fs, hr, hrun, hended, ⟨ha, hb, hc, hd⟩⟩ := X.leaveW hS hn (v := v) hv hlk
  exact ⟨_, _, st fs hr, hrun, hended, _, _, rfl, hQ, ha, hb, hc, hd.mono h1 h2⟩
theorem own_sm {vm₁ : Vm} {n n' : Nat} (h : s.Since vm₁ n) (hn : n ≤ n') : s.Since vm₁ n' := ⟨h.1, fun j p hj hp => by obtain ⟨x, y⟩ := h.2 j p hj hp; exact ⟨x, Nat.lt_of_lt_of_le y hn⟩⟩
theorem own_ib {Ts : List String} (I : IB Z B.vm Ts) (hB : B.WarmedH s.vm) : IB Z s.vm Ts := by
  obtain ⟨more, h1, h2⟩ := I
  exact ⟨more, by rw [hB.interned_eq]; exact h1, h2⟩
theorem own_backS {y : MethodName} {bytes : ByteArray} {maxL : Nat} {ret : Option FieldType} {rm : Room} {len W : Nat} {as' : Array Value}
    (hM : MetFree l y (head1 [Cond.code y bytes maxL ret] rm) (fun a U => a = as' ∧ Z.Warmed39 U.vm ∧ s.WarmedH U.vm ∧ U.heap = h) (fun _ _ _ _ _ => True) (fun _ U o U' => ∃ v L, o = .returned v ∧ Q v U'.heap U'.vm L ∧ ReturnedEndW U o U' L rm.cells rm.slots))
    (hZ : Z.Warmed39 s.vm) (wc : (Cond.code y bytes maxL ret).before a0 Z = true) (wz : (Cond.initialized y.cls).before a0 Z = true) (hf : rm.frames + 1 ≤ R.frames) (hl : W + (maxL + 11) + rm.locals ≤ R.locals) :
    BackS l R p e below s args y len W (fun A a => a = as' ∧ A.U.heap = h ∧ A.cells + rm.cells ≤ R.cells ∧ A.slots + rm.slots ≤ R.slots)
      (fun A _ v B => ∃ L, Q v B.U.heap B.U.vm L ∧ B.locs = A.locs ++ L ∧ B.cells = A.cells + rm.cells ∧ B.slots = A.slots + rm.slots) :=
  BackS.of_freeW (bytes := bytes) (maxL := maxL) (ret := ret) (E := fun _ _ o t L k n => k = rm.cells ∧ n = rm.slots ∧ ∃ v, o = .returned v ∧ Q v t.heap t.vm L) hM hf hl
    (fun _ _ _ A a Y hp => have hU : Z.Warmed39 A.U.vm := wtrans hZ Y.warmed
      ⟨by show (Cond.and _ .tt).before a A.U = true; rw [Cond.before_and, mv hU wc]; rfl, mv hU wc, mv hU wz, hp.2.2.1, hp.2.2.2⟩)
    (fun _ _ _ _ _ _ _ Y hp => ⟨hp.1, wtrans hZ Y.warmed, Y.warmed, hp.2.1⟩) (fun _ _ _ _ _ _ _ _ _ => trivial)
    (fun _ _ _ _ ⟨v, L, h1, h2, h3⟩ => ⟨L, _, _, h3, rfl, rfl, v, h1, h2⟩)
    (fun _ _ _ _ _ _ _ _ _ L _ _ _ _ _ _ ⟨e1, e2, _, e3, e4⟩ => by cases e3; subst e1 e2; exact ⟨L, e4, rfl, rfl, rfl⟩)
theorem own_backB {y : MethodName} {bytes : ByteArray} {maxL : Nat} {ret : Option FieldType} {rm : Room} {len W : Nat} {as' : Array Value} {Q : Option Value → Heap → List Loc → Prop}
    (hM : MetFree l y (head1 [Cond.code y bytes maxL ret] rm) (fun a U => a = as' ∧ Z.Warmed39 U.vm ∧ s.WarmedH U.vm ∧ U.heap = h) (fun _ _ _ _ _ => True) (fun _ U o U' => ∃ v L, o = .returned v ∧ Q v U'.heap L ∧ FrameEnd U o U' L rm.cells rm.slots))
    (hZ : Z.Warmed39 s.vm) (wc : (Cond.code y bytes maxL ret).before a0 Z = true) (wz : (Cond.initialized y.cls).before a0 Z = true) (hf : rm.frames + 1 ≤ R.frames) (hl : W + (maxL + 11) + rm.locals ≤ R.locals) :
    Back l R p e below s args y len W (fun A a => a = as' ∧ A.U.heap = h ∧ A.cells + rm.cells ≤ R.cells ∧ A.slots + rm.slots ≤ R.slots)
      (fun A _ v B => ∃ L, Q v B.U.heap L ∧ B.locs = A.locs ++ L ∧ B.cells = A.cells + rm.cells ∧ B.slots = A.slots + rm.slots) :=
  Back.of_free (bytes := bytes) (maxL := maxL) (ret := ret) (E := fun _ _ o t L k n => k = rm.cells ∧ n = rm.slots ∧ ∃ v, o = .returned v ∧ Q v t.heap L) hM hf hl
    (fun _ _ _ A a Y hp => have hU : Z.Warmed39 A.U.vm := wtrans hZ Y.warmed
      ⟨by show (Cond.and _ .tt).before a A.U = true; rw [Cond.before_and, mv hU wc]; rfl, mv hU wc, mv hU wz, hp.2.2.1, hp.2.2.2⟩)
    (fun _ _ _ _ _ _ _ Y hp => ⟨hp.1, wtrans hZ Y.warmed, Y.warmed, hp.2.1⟩) (fun _ _ _ _ _ _ _ _ _ => trivial)
    (fun _ _ _ _ ⟨v, L, h1, h2, h3⟩ => ⟨L, _, _, h3, rfl, rfl, v, h1, h2⟩)
    (fun _ _ _ _ _ _ _ _ _ L _ _ _ _ _ _ ⟨e1, e2, _, e3, e4⟩ => by cases e3; subst e1 e2; exact ⟨L, e4, rfl, rfl, rfl⟩)
end OwnW
theorem own_wS {Z : State} {a0 : Array Value} (hw : ∀ d ∈ tables_1, d.before a0 Z = true) : ∀ a ∈ Bundle.stringAtoms, a.before a0 Z = true := by
  intro a ha
  have H := fun (k : Nat) (d : Jvm.Cond) (e : tables_1[k]? = some d) => hw d (List.mem_of_getElem? e)
  simp only [Bundle.stringAtoms, List.mem_cons, List.not_mem_nil, or_false] at ha
  rcases ha with rfl | rfl | rfl | rfl | rfl | rfl | rfl
  all_goals first | exact H 17 _ rfl | exact H 18 _ rfl | exact H 19 _ rfl | exact H 20 _ rfl | exact H 21 _ rfl | exact H 22 _ rfl | exact H 23 _ rfl
theorem d1_0 : decode jdk_29_method_65_code 0 = .ok (.iload_n 0, 1) := by decide +kernel
theorem d1_1 : decode jdk_29_method_65_code 1 = .ok (.iload_n 1, 1) := by decide +kernel
theorem d1_2 : decode jdk_29_method_65_code 2 = .ok (.if_icmp .lt 7, 3) := by decide +kernel
theorem d1_5 : decode jdk_29_method_65_code 5 = .ok (.iload_n 0, 1) := by decide +kernel
theorem d1_6 : decode jdk_29_method_65_code 6 = .ok (.goto 4, 3) := by decide +kernel
theorem d1_9 : decode jdk_29_method_65_code 9 = .ok (.iload_n 1, 1) := by decide +kernel
theorem d1_10 : decode jdk_29_method_65_code 10 = .ok (.ireturn, 1) := by decide +kernel
theorem ef_rm1 (m : MethodId) (y0 : Int32) (y1 : Int32) : entryFrame m #[(.int y0), (.int y1)] 2 = mkF m 0 #[.val (.int y0), .val (.int y1)] [] := by first | (simp [entryFrame, mkF, argsToLocals, Value.category]; done) | rfl
def Q1 (Z : State) (y0 : Int32) (y1 : Int32) (h0 : Heap) (n0 : Nat) (v : Option Value) (h : Heap) (L : List Loc) : Prop := v = some (.int (own_max y0 y1)) ∧ Fr n0 L ∧ h = h0
set_option maxRecDepth 65536 in
set_option maxHeartbeats 40000000 in
theorem rm1 (l : Launch) (Z : State) (a0 : Array Value) (hw : ∀ d ∈ tables_1, d.before a0 Z = true) (ws : List Jvm.Cond) (y0 : Int32) (y1 : Int32) (h0 : Heap) (n0 : Nat) (Z0 : n0 ≤ h0.size) :
    MetFree l mn0 (head1 (Jvm.Cond.code mn0 jdk_29_method_65_code 2 (some .int) :: ws) ({ frames := 0, cells := 0, slots := 0, locals := 0 } : Room)) (fun a U => a = #[(.int y0), (.int y1)] ∧ Z.Warmed39 U.vm ∧ U.heap = h0) (fun _ _ _ _ _ => True) (fun _ U o U' => ∃ v L, o = .returned v ∧ Q1 Z y0 y1 h0 n0 v U'.heap L ∧ FrameEnd U o U' L ({ frames := 0, cells := 0, slots := 0, locals := 0 } : Room).cells ({ frames := 0, cells := 0, slots := 0, locals := 0 } : Room).slots) := by
  refine MetFree.of_bodySF (Jvm.Free.JP.mathPlain rfl (by decide +kernel)) hisR ?_
  intro p e s m args below meth c s₁ Bd hml0 hP hK
  obtain ⟨rfl, hZ, hh⟩ := hP
  have hx := Bd.exec
  have hby := Bd.bytes
  have hml : c.maxLocals = 2 := hml0
  have hown : s.vm.findClass "java/lang/Math" = some m.cls := findClass_of_methodNamed Bd.named
  have hnm := (name_of_methodNamed Bd.named Bd.method).1
  have X0 : Stand p l e ({ frames := 0, cells := 0, slots := 0, locals := 0 } : Room) s m #[(.int y0), (.int y1)] below meth c s₁ [] 0 0 := Stand.of_body Bd
  have e0 : s₁.heap = h0 := by rw [← hh, Bd.state]; rfl
  have N0 := Fr.nil n0
  show own_Ends p e below s (Q1 Z y0 y1 h0 n0) _ _ s₁ _
  rw [ef_rm1 m y0 y1]
  refine own_go (T' := s₁) (f' := (mkF m 2 #[.val (.int y0), .val (.int y1)] [(.int y1), (.int y0)])) (fun _ k => XS.iloadN X0.here hx rfl (hb hby d1_0) rfl (XS.iloadN X0.here hx rfl (hb hby d1_1) rfl k)) ?_
  by_cases hc1 : y0 < y1
  · refine own_go (T' := s₁) (f' := (mkF m 10 #[.val (.int y0), .val (.int y1)] [(.int y1)])) (fun _ k => XS.icmpYes X0.here hx rfl (pc0 := 2) (pc' := 9) rfl (hb hby d1_2) rfl (tlt hc1).1 (by decide) (by decide) (XS.iloadN X0.here hx rfl (hb hby d1_9) rfl k)) ?_
    refine own_ret X0 (v := some (.int y1)) (fun h => by rw [Bd.returns] at h; cases h) Bd.notSynchronized (fun fs hr => retI X0 hx Bd.returns (hb hby d1_10) hr) ?_ (by decide) (by decide)
    show Q1 Z y0 y1 h0 n0 _ s₁.heap _
    refine ⟨?_, N0, e0⟩
    simp [own_max, *]
  · refine own_go (T' := s₁) (f' := (mkF m 10 #[.val (.int y0), .val (.int y1)] [(.int y0)])) (fun _ k => XS.icmpNo X0.here hx rfl (hb hby d1_2) rfl (flt hc1).1 (XS.iloadN X0.here hx rfl (hb hby d1_5) rfl (XS.goto X0.here hx rfl (pc0 := 6) (pc' := 10) rfl (hb hby d1_6) (by decide) (by decide) k))) ?_
    refine own_ret X0 (v := some (.int y0)) (fun h => by rw [Bd.returns] at h; cases h) Bd.notSynchronized (fun fs hr => retI X0 hx Bd.returns (hb hby d1_10) hr) ?_ (by decide) (by decide)
    show Q1 Z y0 y1 h0 n0 _ s₁.heap _
    refine ⟨?_, N0, e0⟩
    simp [own_max, *]
theorem d4_0 : decode prog_43_method_2_code 0 = .ok (.dload_n 1, 1) := by decide +kernel
theorem d4_1 : decode prog_43_method_2_code 1 = .ok (.dconst 0, 1) := by decide +kernel
theorem d4_2 : decode prog_43_method_2_code 2 = .ok (.dcmp .l, 1) := by decide +kernel
theorem d4_3 : decode prog_43_method_2_code 3 = .ok (.ifCond .lt 11, 3) := by decide +kernel
theorem d4_6 : decode prog_43_method_2_code 6 = .ok (.dload_n 1, 1) := by decide +kernel
theorem d4_7 : decode prog_43_method_2_code 7 = .ok (.ldc2_w 9, 3) := by decide +kernel
theorem d4_10 : decode prog_43_method_2_code 10 = .ok (.dcmp .g, 1) := by decide +kernel
theorem d4_11 : decode prog_43_method_2_code 11 = .ok (.ifCond .lt 18, 3) := by decide +kernel
theorem d4_29 : decode prog_43_method_2_code 29 = .ok (.dload_n 1, 1) := by decide +kernel
theorem d4_30 : decode prog_43_method_2_code 30 = .ok (.dreturn, 1) := by decide +kernel
theorem pn_2 : plainName "com/example/feedback/feedback/search/Parameters" = true := by first | (simp [plainName, overriddenIn]; done) | decide +kernel
theorem ef_rm4 (m : MethodId) (y0 : Addr) (y1 : UInt64) : entryFrame m #[(.ref y0), (.double y1)] 3 = mkF m 0 #[.val (.ref y0), .val (.double y1), .second] [] := by first | (simp [entryFrame, mkF, argsToLocals, Value.category]; done) | rfl
def Q4 (Z : State) (y0 : Addr) (y1 : UInt64) (o1 : Ordering) (h0 : Heap) (n0 : Nat) (v : Option Value) (h : Heap) (L : List Loc) : Prop := v = some (.double y1) ∧ Fr n0 L ∧ h = h0
set_option maxRecDepth 65536 in
set_option maxHeartbeats 40000000 in
theorem rm4 (l : Launch) (Z : State) (a0 : Array Value) (hw : ∀ d ∈ tables_1, d.before a0 Z = true) (ws : List Jvm.Cond) (y0 : Addr) (y1 : UInt64) (o1 : Ordering) (h0 : Heap) (n0 : Nat) (Z0 : n0 ≤ h0.size) (c1 : FP.dcmp y1 FP.dconst0 = some o1) (q1 : ¬ (FP.cmpInt 0 (some o1) < (0 : Int32))) (c2 : FP.dcmp y1 9218868437227405312 = some .lt) :
    MetFree l mn1 (head1 (Jvm.Cond.code mn1 prog_43_method_2_code 3 (some .double) :: ws) ({ frames := 0, cells := 0, slots := 0, locals := 0 } : Room)) (fun a U => a = #[(.ref y0), (.double y1)] ∧ Z.Warmed39 U.vm ∧ U.heap = h0) (fun _ _ _ _ _ => True) (fun _ U o U' => ∃ v L, o = .returned v ∧ Q4 Z y0 y1 o1 h0 n0 v U'.heap L ∧ FrameEnd U o U' L ({ frames := 0, cells := 0, slots := 0, locals := 0 } : Room).cells ({ frames := 0, cells := 0, slots := 0, locals := 0 } : Room).slots) := by
  refine MetFree.of_bodySF (plainFor_of_name pn_2) hisR ?_
  intro p e s m args below meth c s₁ Bd hml0 hP hK
  obtain ⟨rfl, hZ, hh⟩ := hP
  have hx := Bd.exec
  have hby := Bd.bytes
  have hml : c.maxLocals = 3 := hml0
  have hown : s.vm.findClass "com/example/feedback/feedback/search/Parameters" = some m.cls := findClass_of_methodNamed Bd.named
  have hnm := (name_of_methodNamed Bd.named Bd.method).1
  have X0 : Stand p l e ({ frames := 0, cells := 0, slots := 0, locals := 0 } : Room) s m #[(.ref y0), (.double y1)] below meth c s₁ [] 0 0 := Stand.of_body Bd
  have e0 : s₁.heap = h0 := by rw [← hh, Bd.state]; rfl
  have N0 := Fr.nil n0
  show own_Ends p e below s (Q4 Z y0 y1 o1 h0 n0) _ _ s₁ _
  rw [ef_rm4 m y0 y1]
  refine own_go (T' := s₁) (f' := (mkF m 10 #[.val (.ref y0), .val (.double y1), .second] [(.double (9218868437227405312 : UInt64)), (.double y1)])) (fun _ k => own_dloadN X0.here hx rfl (hb hby d4_0) rfl (own_dconst0 X0.here hx rfl (hb hby d4_1) (own_dcmp (o := o1) X0.here hx rfl (hb hby d4_2) rfl c1 (XS.ifNo X0.here hx rfl (hb hby d4_3) rfl ((if0 _ _).trans (flt q1).1) (own_dloadN X0.here hx rfl (hb hby d4_6) rfl (X0.ldc2DoubleC hx hown (mvT hZ (ow28 hw)) (g := (mkF m 7 #[.val (.ref y0), .val (.double y1), .second] [(.double y1)])) rfl (hb hby d4_7) _ k)))))) ?_
  refine own_go (T' := s₁) (f' := (mkF m 30 #[.val (.ref y0), .val (.double y1), .second] [(.double y1)])) (fun _ k => own_dcmp (o := .lt) X0.here hx rfl (hb hby d4_10) rfl c2 (XS.ifYes X0.here hx rfl (pc0 := 11) (pc' := 29) rfl (hb hby d4_11) rfl ((if0 _ _).trans (tlt (by decide : ((-1 : Int32) < (0 : Int32)))).1) (by decide) (by decide) (own_dloadN X0.here hx rfl (hb hby d4_29) rfl k))) ?_
  refine own_ret X0 (v := some (.double y1)) (fun h => by rw [Bd.returns] at h; cases h) Bd.notSynchronized (fun fs hr => own_retD X0 hx Bd.returns (hb hby d4_30) hr) ?_ (by decide) (by decide)
  show Q4 Z y0 y1 o1 h0 n0 _ s₁.heap _
  exact ⟨rfl, N0, e0⟩
theorem pd4 : parseMethodDescriptor "(Ljava/lang/String;D)D" = some ⟨[(.object "java/lang/String"), .double], some .double⟩ := by decide +kernel
theorem d2_0 : decode prog_36_method_1_code 0 = .ok (.aload_n 0, 1) := by decide +kernel
theorem d2_1 : decode prog_36_method_1_code 1 = .ok (.invokespecial 1, 3) := by decide +kernel
theorem d2_4 : decode prog_36_method_1_code 4 = .ok (.ldc 7, 2) := by decide +kernel
theorem d2_6 : decode prog_36_method_1_code 6 = .ok (.dload_n 1, 1) := by decide +kernel
theorem d2_7 : decode prog_36_method_1_code 7 = .ok (.invokestatic 9, 3) := by decide +kernel
theorem d2_10 : decode prog_36_method_1_code 10 = .ok (.pop2, 1) := by decide +kernel
theorem d2_11 : decode prog_36_method_1_code 11 = .ok (.dload_n 3, 1) := by decide +kernel
theorem d2_12 : decode prog_36_method_1_code 12 = .ok (.dconst 0, 1) := by decide +kernel
theorem d2_13 : decode prog_36_method_1_code 13 = .ok (.dcmp .l, 1) := by decide +kernel
theorem d2_14 : decode prog_36_method_1_code 14 = .ok (.ifCond .lt 9, 3) := by decide +kernel
theorem d2_17 : decode prog_36_method_1_code 17 = .ok (.dload_n 3, 1) := by decide +kernel
theorem d2_18 : decode prog_36_method_1_code 18 = .ok (.dconst 1, 1) := by decide +kernel
theorem d2_19 : decode prog_36_method_1_code 19 = .ok (.dcmp .g, 1) := by decide +kernel
theorem d2_20 : decode prog_36_method_1_code 20 = .ok (.ifCond .le 17, 3) := by decide +kernel
theorem d2_37 : decode prog_36_method_1_code 37 = .ok (.aload_n 0, 1) := by decide +kernel
theorem d2_38 : decode prog_36_method_1_code 38 = .ok (.dload_n 1, 1) := by decide +kernel
theorem d2_39 : decode prog_36_method_1_code 39 = .ok (.putfield 24, 3) := by decide +kernel
theorem d2_42 : decode prog_36_method_1_code 42 = .ok (.aload_n 0, 1) := by decide +kernel
theorem d2_43 : decode prog_36_method_1_code 43 = .ok (.dload_n 3, 1) := by decide +kernel
theorem d2_44 : decode prog_36_method_1_code 44 = .ok (.putfield 29, 3) := by decide +kernel
theorem d2_47 : decode prog_36_method_1_code 47 = .ok (.return_, 1) := by decide +kernel
theorem pn_0 : plainName "com/example/feedback/feedback/search/Bm25" = true := by first | (simp [plainName, overriddenIn]; done) | decide +kernel
theorem ef_rm2 (m : MethodId) (y0 : Addr) (y1 : UInt64) (y2 : UInt64) : entryFrame m #[(.ref y0), (.double y1), (.double y2)] 5 = mkF m 0 #[.val (.ref y0), .val (.double y1), .second, .val (.double y2), .second] [] := by first | (simp [entryFrame, mkF, argsToLocals, Value.category]; done) | rfl
def Q2 (Z : State) (B : State) (y0 : Addr) (y1 : UInt64) (y2 : UInt64) (u0 : Value) (u1 : Value) (o1 : Ordering) (o3 : Ordering) (o4 : Ordering) (h0 : Heap) (n0 : Nat) (v : Option Value) (h : Heap) (vm : Vm) (L : List Loc) : Prop := v = none ∧ Fr n0 L ∧ Keep h0 h [y0] ∧ Exa Z h y0 "com/example/feedback/feedback/search/Bm25" ∧ Fld Z h y0 "com/example/feedback/feedback/search/Bm25" "k1" "D" (.double y1) ∧ Fld Z h y0 "com/example/feedback/feedback/search/Bm25" "b" "D" (.double y2)
set_option maxRecDepth 65536 in
set_option maxHeartbeats 40000000 in
theorem rm2 (l : Launch) (Z : State) (a0 : Array Value) (hw : ∀ d ∈ tables_1, d.before a0 Z = true) (ws : List Jvm.Cond) (B : State) (y0 : Addr) (y1 : UInt64) (y2 : UInt64) (u0 : Value) (u1 : Value) (o1 : Ordering) (o3 : Ordering) (o4 : Ordering) (h0 : Heap) (n0 : Nat) (Z0 : n0 ≤ h0.size) (E_y0 : Exa Z h0 y0 "com/example/feedback/feedback/search/Bm25") (n_y0 : n0 ≤ y0) (F_0 : Fld Z h0 y0 "com/example/feedback/feedback/search/Bm25" "k1" "D" u0) (F_1 : Fld Z h0 y0 "com/example/feedback/feedback/search/Bm25" "b" "D" u1) (c1 : FP.dcmp y1 FP.dconst0 = some o1) (q1 : ¬ (FP.cmpInt 0 (some o1) < (0 : Int32))) (c2 : FP.dcmp y1 9218868437227405312 = some .lt) (c3 : FP.dcmp y2 FP.dconst0 = some o3) (q3 : ¬ (FP.cmpInt 0 (some o3) < (0 : Int32))) (c4 : FP.dcmp y2 FP.dconst1 = some o4) (q4 : ¬ ((0 : Int32) < FP.cmpInt 0 (some o4))) :
    MetFree l mn2 (head1 (Jvm.Cond.code mn2 prog_36_method_1_code 5 none :: ws) ({ frames := 1, cells := 2, slots := 12, locals := 14 } : Room)) (fun a U => a = #[(.ref y0), (.double y1), (.double y2)] ∧ Z.Warmed39 U.vm ∧ B.WarmedH U.vm ∧ U.heap = h0) (fun _ _ _ _ _ => True) (fun _ U o U' => ∃ v L, o = .returned v ∧ Q2 Z B y0 y1 y2 u0 u1 o1 o3 o4 h0 n0 v U'.heap U'.vm L ∧ ReturnedEndW U o U' L ({ frames := 1, cells := 2, slots := 12, locals := 14 } : Room).cells ({ frames := 1, cells := 2, slots := 12, locals := 14 } : Room).slots) := by
  refine MetFree.of_bodySF (plainFor_of_name pn_0) hisR ?_
  intro p e s m args below meth c s₁ Bd hml0 hP hK
  obtain ⟨rfl, hZ, hB, hh⟩ := hP
  have hx := Bd.exec
  have hby := Bd.bytes
  have hml : c.maxLocals = 5 := hml0
  have hown : s.vm.findClass "com/example/feedback/feedback/search/Bm25" = some m.cls := findClass_of_methodNamed Bd.named
  have hnm := (name_of_methodNamed Bd.named Bd.method).1
  have X0 : Stand p l e ({ frames := 1, cells := 2, slots := 12, locals := 14 } : Room) (s.setVm s.vm) m #[(.ref y0), (.double y1), (.double y2)] below meth c s₁ [] 0 0 := Stand.of_body Bd
  have e0 : s₁.heap = h0 := by rw [← hh, Bd.state]; rfl
  have N0 := Fr.nil n0
  have hS : s.Since s.vm h0.size := (State.WarmedH.refl s).since _
  show own_EndsW p e below s (Q2 Z B y0 y1 y2 u0 u1 o1 o3 o4 h0 n0) _ _ s₁ _
  rw [ef_rm2 m y0 y1 y2]
  refine own_goW (T' := s₁) (f' := (mkF m 1 #[.val (.ref y0), .val (.double y1), .second, .val (.double y2), .second] [(.ref y0)])) (fun _ k => XS.aloadN X0.here hx rfl (hb hby d2_0) rfl rfl k) ?_
  obtain ⟨T1, X1, e1, st1⟩ := initO X0 hx hZ hown (ow13 hw) (ow14 hw) (ow15 hw) e0 (g := (mkF m 1 #[.val (.ref y0), .val (.double y1), .second, .val (.double y2), .second] [(.ref y0)])) rfl (by rw [hml]; rfl) rfl (hb hby d2_1) (by decide) (W := 0) (by show 2 * 0 + _ ≤ _; exact Nat.le_of_eq rfl) (by decide)
  refine own_goW (T' := T1) (f' := (mkF m 4 #[.val (.ref y0), .val (.double y1), .second, .val (.double y2), .second] [])) (fun _ k => st1 _ k) ?_
  obtain ⟨a2, T2, h2, k1_2, X2, e2, E2, hS2, hk2, -, -, st2⟩ := ldcS (Z := Z) (s := (s.setVm s.vm)) (vm0 := s.vm) X1 hx hZ hown (ow16 hw) (own_wS hw) e1 ((State.WarmedH.refl (s.setVm s.vm)).since 0) (Nat.zero_le _) (g := (mkF m 4 #[.val (.ref y0), .val (.double y1), .second, .val (.double y2), .second] [])) rfl (hb hby d2_4) (n := 8) (by decide) (by decide) (by decide) (by decide)
  have hM2 := own_sm hS2 hk2
  obtain ⟨X2, hS, hZ, hown⟩ := rebS hS (Nat.le_refl _) X2 hM2 E2.1 hZ hown
  have K2 : Keep h0 h2 [y0] := (Keep.refl h0 [y0]).ext E2
  refine own_goW (T' := T2) (f' := (mkF m 7 #[.val (.ref y0), .val (.double y1), .second, .val (.double y2), .second] [(.double y1), (.ref a2)])) (fun _ k => st2 _ (own_dloadN X2.here hx rfl (hb hby d2_6) rfl k)) ?_
  obtain ⟨_, T3, Lc3, X3, hQ3, st3⟩ := own_outC (Jvm.LawKit.callS X2 hx (y := mn1) hown (mvT hZ (ow24 hw)) (mvT hZ (ow25 hw)) (mvT hZ (ow26 hw)) (mvT hZ (ow27 hw)) (by decide) (backOf (W := 0) (rm4 l Z a0 hw [] a2 y1 o1 h2 n0 (Nat.le_trans Z0 E2.1) c1 q1 c2) hZ (ow27 hw) (ow26 hw) (by decide) (by decide)) (g := (mkF m 7 #[.val (.ref y0), .val (.double y1), .second, .val (.double y2), .second] [(.double y1), (.ref a2)])) rfl (by rw [hml]; rfl) (argsL := [(.ref a2), (.double y1)]) (rest := []) (lenOf pd4 rfl) rfl (by show 2 * 0 + _ ≤ _; exact Nat.le_of_eq rfl) (hb hby d2_7) (fun _ _ => ⟨rfl, e2, (by decide : 2 + 0 ≤ _), (by decide : 12 + 0 ≤ _)⟩))
  obtain ⟨rfl, N3q, hh3⟩ := hQ3
  have N3 := Fr.app N0 N3q
  obtain ⟨_, X3, N3⟩ := own_hide X3 N3
  refine own_goW (T' := T3) (f' := (mkF m 17 #[.val (.ref y0), .val (.double y1), .second, .val (.double y2), .second] [])) (fun _ k => st3 _ (own_pop2D X3.here hx rfl (hb hby d2_10) rfl (own_dloadN X3.here hx rfl (hb hby d2_11) rfl (own_dconst0 X3.here hx rfl (hb hby d2_12) (own_dcmp (o := o3) X3.here hx rfl (hb hby d2_13) rfl c3 (XS.ifNo X3.here hx rfl (hb hby d2_14) rfl ((if0 _ _).trans (flt q3).1) k)))))) ?_
  refine own_goW (T' := T3) (f' := (mkF m 39 #[.val (.ref y0), .val (.double y1), .second, .val (.double y2), .second] [(.double y1), (.ref y0)])) (fun _ k => own_dloadN X3.here hx rfl (hb hby d2_17) rfl (own_dconst1 X3.here hx rfl (hb hby d2_18) (own_dcmp (o := o4) X3.here hx rfl (hb hby d2_19) rfl c4 (XS.ifYes X3.here hx rfl (pc0 := 20) (pc' := 37) rfl (hb hby d2_20) rfl ((if0 _ _).trans (flt q4).2.2.2) (by decide) (by decide) (XS.aloadN X3.here hx rfl (hb hby d2_37) rfl rfl (own_dloadN X3.here hx rfl (hb hby d2_38) rfl k)))))) ?_
  obtain ⟨T4, h4, X4, e4, W4, st4⟩ := putF X3 hx hZ hown (host := "") (Or.inl (ow29 hw)) Via.refl hh3 (F_0.ext E2) (E_y0.ext E2) (Or.inr ⟨(ow30 hw), rfl, hnm⟩) (ow6 hw) (ty := .double) (by decide) rfl rfl (g := (mkF m 39 #[.val (.ref y0), .val (.double y1), .second, .val (.double y2), .second] [(.double y1), (.ref y0)])) rfl rfl (hb hby d2_39)
  have Fw4 := Fld.same W4 (F_0.ext E2)
  have K4 : Keep h0 h4 [y0] := K2.wr W4 (Or.inl (List.mem_of_getElem? (i := 0) rfl))
  have N4 := Fr.snoc X4 N3 n_y0
  refine own_goW (T' := T4) (f' := (mkF m 44 #[.val (.ref y0), .val (.double y1), .second, .val (.double y2), .second] [(.double y2), (.ref y0)])) (fun _ k => st4 _ (XS.aloadN X4.here hx rfl (hb hby d2_42) rfl rfl (own_dloadN X4.here hx rfl (hb hby d2_43) rfl k))) ?_
  obtain ⟨T5, h5, X5, e5, W5, st5⟩ := putF X4 hx hZ hown (host := "") (Or.inl (ow31 hw)) Via.refl e4 ((F_1.ext E2).other W4 (Or.inr (slot_ne (Or.inr (ow32 hw)) (Or.inr (ow30 hw)) (by decide) (t := .double) (t' := .double) (by decide) (by decide)))) ((E_y0.ext E2).wr W4) (Or.inr ⟨(ow32 hw), rfl, hnm⟩) (ow6 hw) (ty := .double) (by decide) rfl rfl (g := (mkF m 44 #[.val (.ref y0), .val (.double y1), .second, .val (.double y2), .second] [(.double y2), (.ref y0)])) rfl rfl (hb hby d2_44)
  have Fw5 := Fld.same W5 ((F_1.ext E2).other W4 (Or.inr (slot_ne (Or.inr (ow32 hw)) (Or.inr (ow30 hw)) (by decide) (t := .double) (t' := .double) (by decide) (by decide))))
  have K5 : Keep h0 h5 [y0] := K4.wr W5 (Or.inl (List.mem_of_getElem? (i := 0) rfl))
  have N5 := Fr.snoc X5 N4 n_y0
  refine own_goW (T' := T5) (f' := (mkF m 47 #[.val (.ref y0), .val (.double y1), .second, .val (.double y2), .second] [])) (fun _ k => st5 _ k) ?_
  refine own_retW X5 hS (by rw [e5]; exact (Nat.le_trans (Nat.le_trans (Nat.le_refl _) (Keep.of_wr W4).1) (Keep.of_wr W5).1)) (v := none) (fun _ => rfl) Bd.notSynchronized (fun fs hr => X5.returnOut hx Bd.returns (hb hby d2_47) hr) ?_ (by decide) (by decide)
  show Q2 Z B y0 y1 y2 u0 u1 o1 o3 o4 h0 n0 _ T5.heap T5.vm _
  rw [e5]
  exact ⟨rfl, N5, K5, (((E_y0.ext E2).wr W4).wr W5), (Fw4.other W5 (Or.inr (slot_ne (Or.inr (ow30 hw)) (Or.inr (ow32 hw)) (by decide) (t := .double) (t' := .double) (by decide) (by decide)))), Fw5⟩
theorem d5_0 : decode prog_36_method_3_code 0 = .ok (.aload_n 0, 1) := by decide +kernel
theorem d5_1 : decode prog_36_method_3_code 1 = .ok (.getfield 24, 3) := by decide +kernel
theorem d5_4 : decode prog_36_method_3_code 4 = .ok (.dconst 1, 1) := by decide +kernel
theorem d5_5 : decode prog_36_method_3_code 5 = .ok (.dadd, 1) := by decide +kernel
theorem d5_6 : decode prog_36_method_3_code 6 = .ok (.iload_n 1, 1) := by decide +kernel
theorem d5_7 : decode prog_36_method_3_code 7 = .ok (.i2d, 1) := by decide +kernel
theorem d5_8 : decode prog_36_method_3_code 8 = .ok (.dmul, 1) := by decide +kernel
theorem d5_9 : decode prog_36_method_3_code 9 = .ok (.iload_n 1, 1) := by decide +kernel
theorem d5_10 : decode prog_36_method_3_code 10 = .ok (.i2d, 1) := by decide +kernel
theorem d5_11 : decode prog_36_method_3_code 11 = .ok (.aload_n 0, 1) := by decide +kernel
theorem d5_12 : decode prog_36_method_3_code 12 = .ok (.getfield 24, 3) := by decide +kernel
theorem d5_15 : decode prog_36_method_3_code 15 = .ok (.dconst 1, 1) := by decide +kernel
theorem d5_16 : decode prog_36_method_3_code 16 = .ok (.aload_n 0, 1) := by decide +kernel
theorem d5_17 : decode prog_36_method_3_code 17 = .ok (.getfield 29, 3) := by decide +kernel
theorem d5_20 : decode prog_36_method_3_code 20 = .ok (.dsub, 1) := by decide +kernel
theorem d5_21 : decode prog_36_method_3_code 21 = .ok (.aload_n 0, 1) := by decide +kernel
theorem d5_22 : decode prog_36_method_3_code 22 = .ok (.getfield 29, 3) := by decide +kernel
theorem d5_25 : decode prog_36_method_3_code 25 = .ok (.iload_n 2, 1) := by decide +kernel
theorem d5_26 : decode prog_36_method_3_code 26 = .ok (.i2d, 1) := by decide +kernel
theorem d5_27 : decode prog_36_method_3_code 27 = .ok (.dmul, 1) := by decide +kernel
theorem d5_28 : decode prog_36_method_3_code 28 = .ok (.dload_n 3, 1) := by decide +kernel
theorem d5_29 : decode prog_36_method_3_code 29 = .ok (.ddiv, 1) := by decide +kernel
theorem d5_30 : decode prog_36_method_3_code 30 = .ok (.dadd, 1) := by decide +kernel
theorem d5_31 : decode prog_36_method_3_code 31 = .ok (.dmul, 1) := by decide +kernel
theorem d5_32 : decode prog_36_method_3_code 32 = .ok (.dadd, 1) := by decide +kernel
theorem d5_33 : decode prog_36_method_3_code 33 = .ok (.ddiv, 1) := by decide +kernel
theorem d5_34 : decode prog_36_method_3_code 34 = .ok (.dreturn, 1) := by decide +kernel
theorem ef_rm5 (m : MethodId) (y0 : Addr) (y1 : Int32) (y2 : Int32) (y3 : UInt64) : entryFrame m #[(.ref y0), (.int y1), (.int y2), (.double y3)] 5 = mkF m 0 #[.val (.ref y0), .val (.int y1), .val (.int y2), .val (.double y3), .second] [] := by first | (simp [entryFrame, mkF, argsToLocals, Value.category]; done) | rfl
def Q5 (Z : State) (y0 : Addr) (y1 : Int32) (y2 : Int32) (y3 : UInt64) (u0 : UInt64) (u1 : UInt64) (h0 : Heap) (n0 : Nat) (v : Option Value) (h : Heap) (L : List Loc) : Prop := v = some (.double (own_tf u0 u1 y1 y2 y3)) ∧ Fr n0 L ∧ h = h0
set_option maxRecDepth 65536 in
set_option maxHeartbeats 40000000 in
theorem rm5 (l : Launch) (Z : State) (a0 : Array Value) (hw : ∀ d ∈ tables_1, d.before a0 Z = true) (ws : List Jvm.Cond) (y0 : Addr) (y1 : Int32) (y2 : Int32) (y3 : UInt64) (u0 : UInt64) (u1 : UInt64) (h0 : Heap) (n0 : Nat) (Z0 : n0 ≤ h0.size) (F_0 : Fld Z h0 y0 "com/example/feedback/feedback/search/Bm25" "k1" "D" (.double u0)) (F_1 : Fld Z h0 y0 "com/example/feedback/feedback/search/Bm25" "b" "D" (.double u1)) (nn : own_nn u0 u1 y1 y2 y3) :
    MetFree l mn3 (head1 (Jvm.Cond.code mn3 prog_36_method_3_code 5 (some .double) :: ws) ({ frames := 0, cells := 0, slots := 0, locals := 0 } : Room)) (fun a U => a = #[(.ref y0), (.int y1), (.int y2), (.double y3)] ∧ Z.Warmed39 U.vm ∧ U.heap = h0) (fun _ _ _ _ _ => True) (fun _ U o U' => ∃ v L, o = .returned v ∧ Q5 Z y0 y1 y2 y3 u0 u1 h0 n0 v U'.heap L ∧ FrameEnd U o U' L ({ frames := 0, cells := 0, slots := 0, locals := 0 } : Room).cells ({ frames := 0, cells := 0, slots := 0, locals := 0 } : Room).slots) := by
  refine MetFree.of_bodySF (plainFor_of_name pn_0) hisR ?_
  intro p e s m args below meth c s₁ Bd hml0 hP hK
  obtain ⟨rfl, hZ, hh⟩ := hP
  have hx := Bd.exec
  have hby := Bd.bytes
  have hml : c.maxLocals = 5 := hml0
  have hown : s.vm.findClass "com/example/feedback/feedback/search/Bm25" = some m.cls := findClass_of_methodNamed Bd.named
  have hnm := (name_of_methodNamed Bd.named Bd.method).1
  have X0 : Stand p l e ({ frames := 0, cells := 0, slots := 0, locals := 0 } : Room) s m #[(.ref y0), (.int y1), (.int y2), (.double y3)] below meth c s₁ [] 0 0 := Stand.of_body Bd
  have e0 : s₁.heap = h0 := by rw [← hh, Bd.state]; rfl
  have N0 := Fr.nil n0
  show own_Ends p e below s (Q5 Z y0 y1 y2 y3 u0 u1 h0 n0) _ _ s₁ _
  rw [ef_rm5 m y0 y1 y2 y3]
  refine own_go (T' := s₁) (f' := (mkF m 1 #[.val (.ref y0), .val (.int y1), .val (.int y2), .val (.double y3), .second] [(.ref y0)])) (fun _ k => XS.aloadN X0.here hx rfl (hb hby d5_0) rfl rfl k) ?_
  obtain ⟨T1, X1, e1, st1⟩ := getF X0 hx hZ hown (host := "") (Or.inl (ow29 hw)) Via.refl e0 F_0 (g := (mkF m 1 #[.val (.ref y0), .val (.int y1), .val (.int y2), .val (.double y3), .second] [(.ref y0)])) rfl rfl (hb hby d5_1)
  refine own_go (T' := T1) (f' := (mkF m 9 #[.val (.ref y0), .val (.int y1), .val (.int y2), .val (.double y3), .second] [(.double (FP.dmul (FP.dadd u0 FP.dconst1) (FP.i2d y1)))])) (fun _ k => st1 _ (own_dconst1 X1.here hx rfl (hb hby d5_4) (XS.daddS X1.here hx rfl (hb hby d5_5) rfl nn.1 rfl (XS.iloadN X1.here hx rfl (hb hby d5_6) rfl (own_i2d X1.here hx rfl (hb hby d5_7) rfl (XS.dmulS X1.here hx rfl (hb hby d5_8) rfl nn.2.1 rfl k)))))) ?_
  refine own_go (T' := T1) (f' := (mkF m 12 #[.val (.ref y0), .val (.int y1), .val (.int y2), .val (.double y3), .second] [(.ref y0), (.double (FP.i2d y1)), (.double (FP.dmul (FP.dadd u0 FP.dconst1) (FP.i2d y1)))])) (fun _ k => XS.iloadN X1.here hx rfl (hb hby d5_9) rfl (own_i2d X1.here hx rfl (hb hby d5_10) rfl (XS.aloadN X1.here hx rfl (hb hby d5_11) rfl rfl k))) ?_
  obtain ⟨T2, X2, e2, st2⟩ := getF X1 hx hZ hown (host := "") (Or.inl (ow29 hw)) Via.refl e1 F_0 (g := (mkF m 12 #[.val (.ref y0), .val (.int y1), .val (.int y2), .val (.double y3), .second] [(.ref y0), (.double (FP.i2d y1)), (.double (FP.dmul (FP.dadd u0 FP.dconst1) (FP.i2d y1)))])) rfl rfl (hb hby d5_12)
  refine own_go (T' := T2) (f' := (mkF m 17 #[.val (.ref y0), .val (.int y1), .val (.int y2), .val (.double y3), .second] [(.ref y0), (.double FP.dconst1), (.double u0), (.double (FP.i2d y1)), (.double (FP.dmul (FP.dadd u0 FP.dconst1) (FP.i2d y1)))])) (fun _ k => st2 _ (own_dconst1 X2.here hx rfl (hb hby d5_15) (XS.aloadN X2.here hx rfl (hb hby d5_16) rfl rfl k))) ?_
  obtain ⟨T3, X3, e3, st3⟩ := getF X2 hx hZ hown (host := "") (Or.inl (ow31 hw)) Via.refl e2 F_1 (g := (mkF m 17 #[.val (.ref y0), .val (.int y1), .val (.int y2), .val (.double y3), .second] [(.ref y0), (.double FP.dconst1), (.double u0), (.double (FP.i2d y1)), (.double (FP.dmul (FP.dadd u0 FP.dconst1) (FP.i2d y1)))])) rfl rfl (hb hby d5_17)
  refine own_go (T' := T3) (f' := (mkF m 22 #[.val (.ref y0), .val (.int y1), .val (.int y2), .val (.double y3), .second] [(.ref y0), (.double (FP.dsub FP.dconst1 u1)), (.double u0), (.double (FP.i2d y1)), (.double (FP.dmul (FP.dadd u0 FP.dconst1) (FP.i2d y1)))])) (fun _ k => st3 _ (XS.dsubS X3.here hx rfl (hb hby d5_20) rfl nn.2.2.1 rfl (XS.aloadN X3.here hx rfl (hb hby d5_21) rfl rfl k))) ?_
  obtain ⟨T4, X4, e4, st4⟩ := getF X3 hx hZ hown (host := "") (Or.inl (ow31 hw)) Via.refl e3 F_1 (g := (mkF m 22 #[.val (.ref y0), .val (.int y1), .val (.int y2), .val (.double y3), .second] [(.ref y0), (.double (FP.dsub FP.dconst1 u1)), (.double u0), (.double (FP.i2d y1)), (.double (FP.dmul (FP.dadd u0 FP.dconst1) (FP.i2d y1)))])) rfl rfl (hb hby d5_22)
  refine own_go (T' := T4) (f' := (mkF m 30 #[.val (.ref y0), .val (.int y1), .val (.int y2), .val (.double y3), .second] [(.double (FP.ddiv (FP.dmul u1 (FP.i2d y2)) y3)), (.double (FP.dsub FP.dconst1 u1)), (.double u0), (.double (FP.i2d y1)), (.double (FP.dmul (FP.dadd u0 FP.dconst1) (FP.i2d y1)))])) (fun _ k => st4 _ (XS.iloadN X4.here hx rfl (hb hby d5_25) rfl (own_i2d X4.here hx rfl (hb hby d5_26) rfl (XS.dmulS X4.here hx rfl (hb hby d5_27) rfl nn.2.2.2.1 rfl (own_dloadN X4.here hx rfl (hb hby d5_28) rfl (XS.ddivS X4.here hx rfl (hb hby d5_29) rfl nn.2.2.2.2.1 rfl k)))))) ?_
  refine own_go (T' := T4) (f' := (mkF m 34 #[.val (.ref y0), .val (.int y1), .val (.int y2), .val (.double y3), .second] [(.double (FP.ddiv (FP.dmul (FP.dadd u0 FP.dconst1) (FP.i2d y1)) (FP.dadd (FP.i2d y1) (FP.dmul u0 (FP.dadd (FP.dsub FP.dconst1 u1) (FP.ddiv (FP.dmul u1 (FP.i2d y2)) y3))))))])) (fun _ k => XS.daddS X4.here hx rfl (hb hby d5_30) rfl nn.2.2.2.2.2.1 rfl (XS.dmulS X4.here hx rfl (hb hby d5_31) rfl nn.2.2.2.2.2.2.1 rfl (XS.daddS X4.here hx rfl (hb hby d5_32) rfl nn.2.2.2.2.2.2.2.1 rfl (XS.ddivS X4.here hx rfl (hb hby d5_33) rfl nn.2.2.2.2.2.2.2.2 rfl k)))) ?_
  refine own_ret X4 (v := some (.double (FP.ddiv (FP.dmul (FP.dadd u0 FP.dconst1) (FP.i2d y1)) (FP.dadd (FP.i2d y1) (FP.dmul u0 (FP.dadd (FP.dsub FP.dconst1 u1) (FP.ddiv (FP.dmul u1 (FP.i2d y2)) y3))))))) (fun h => by rw [Bd.returns] at h; cases h) Bd.notSynchronized (fun fs hr => own_retD X4 hx Bd.returns (hb hby d5_34) hr) ?_ (by decide) (by decide)
  show Q5 Z y0 y1 y2 y3 u0 u1 h0 n0 _ T4.heap _
  exact ⟨rfl, N0, e4⟩
theorem pd2 : parseMethodDescriptor "(II)I" = some ⟨[.int, .int], some .int⟩ := by decide +kernel
theorem pd1 : parseMethodDescriptor "(DD)V" = some ⟨[.double, .double], none⟩ := by decide +kernel
theorem pd3 : parseMethodDescriptor "(IID)D" = some ⟨[.int, .int, .double], some .double⟩ := by decide +kernel
theorem pn_1 : plainName "com/example/feedback/feedback/search/Bm25TfWeightPinLaw" = true := by first | (simp [plainName, overriddenIn]; done) | decide +kernel
theorem ef_rm0 (m : MethodId) (p0 : Int32) (p1 : Int32) (p2 : Int32) (p3 : Int32) (p4 : Int32) : entryFrame m #[(.int p0), (.int p1), (.int p2), (.int p3), (.int p4)] maxLocals = mkF m 0 #[.val (.int p0), .val (.int p1), .val (.int p2), .val (.int p3), .val (.int p4), .unset, .unset, .unset, .unset, .unset, .unset, .unset, .unset, .unset, .unset, .unset, .unset, .unset, .unset, .unset, .unset, .unset, .unset] [] := by first | (simp [entryFrame, mkF, argsToLocals, Value.category, maxLocals]; done) | rfl
def Q0 (Z : State) (B : State) (p0 : Int32) (p1 : Int32) (p2 : Int32) (p3 : Int32) (p4 : Int32) (h0 : Heap) (n0 : Nat) (v : Option Value) (h : Heap) (vm : Vm) (L : List Loc) : Prop := v = some (.int (1 : Int32)) ∧ Fr n0 L
set_option maxRecDepth 65536 in
set_option maxHeartbeats 40000000 in
theorem rm0 (l : Launch) (Z : State) (a0 : Array Value) (hw : ∀ d ∈ tables_1, d.before a0 Z = true) (ws : List Jvm.Cond) (B : State) (p0 : Int32) (p1 : Int32) (p2 : Int32) (p3 : Int32) (p4 : Int32) (h0 : Heap) (n0 : Nat) (Z0 : n0 ≤ h0.size) :
    MetFree l x (head1 (Jvm.Cond.code x code maxLocals ret :: ws) room_1) (fun a U => a = #[(.int p0), (.int p1), (.int p2), (.int p3), (.int p4)] ∧ Z.Warmed39 U.vm ∧ B.WarmedH U.vm ∧ U.heap = h0) (fun _ _ _ _ _ => True) (fun _ U o U' => ∃ v L, o = .returned v ∧ Q0 Z B p0 p1 p2 p3 p4 h0 n0 v U'.heap U'.vm L ∧ ReturnedEndW U o U' L room_1.cells room_1.slots) := by
  refine MetFree.of_bodySF (plainFor_of_name pn_1) hisR ?_
  intro p e s m args below meth c s₁ Bd hml0 hP hK
  obtain ⟨rfl, hZ, hB, hh⟩ := hP
  have hx := Bd.exec
  have hby := Bd.bytes
  have hml : c.maxLocals = 23 := hml0
  have hown : s.vm.findClass "com/example/feedback/feedback/search/Bm25TfWeightPinLaw" = some m.cls := findClass_of_methodNamed Bd.named
  have hnm := (name_of_methodNamed Bd.named Bd.method).1
  have X0 : Stand p l e room_1 (s.setVm s.vm) m #[(.int p0), (.int p1), (.int p2), (.int p3), (.int p4)] below meth c s₁ [] 0 0 := Stand.of_body Bd
  have e0 : s₁.heap = h0 := by rw [← hh, Bd.state]; rfl
  have N0 := Fr.nil n0
  have hS : s.Since s.vm h0.size := (State.WarmedH.refl s).since _
  show own_EndsW p e below s (Q0 Z B p0 p1 p2 p3 p4 h0 n0) _ _ s₁ _
  rw [ef_rm0 m p0 p1 p2 p3 p4]
  refine own_goW (T' := s₁) (f' := (mkF m 6 #[.val (.int p0), .val (.int p1), .val (.int p2), .val (.int p3), .val (.int p4), .val (.int (p0 &&& (15 : Int32))), .unset, .unset, .unset, .unset, .unset, .unset, .unset, .unset, .unset, .unset, .unset, .unset, .unset, .unset, .unset, .unset, .unset] [])) (fun _ k => XS.iloadN X0.here hx rfl (hb hby at_0) rfl (XS.bipush X0.here hx rfl (hb hby at_1) (XS.iand X0.here hx rfl (hb hby at_3) rfl (XS.istore X0.here hx rfl (hb hby at_4) rfl (l' := #[.val (.int p0), .val (.int p1), .val (.int p2), .val (.int p3), .val (.int p4), .val (.int (p0 &&& (15 : Int32))), .unset, .unset, .unset, .unset, .unset, .unset, .unset, .unset, .unset, .unset, .unset, .unset, .unset, .unset, .unset, .unset, .unset]) rfl k)))) ?_
  generalize hzi : (p0 &&& (15 : Int32)) = zi
  refine own_goW (T' := s₁) (f' := (mkF m 15 #[.val (.int p0), .val (.int p1), .val (.int p2), .val (.int p3), .val (.int p4), .val (.int zi), .val (.int ((p1 &&& (2147483647 : Int32)) % (9 : Int32))), .unset, .unset, .unset, .unset, .unset, .unset, .unset, .unset, .unset, .unset, .unset, .unset, .unset, .unset, .unset, .unset] [])) (fun _ k => XS.iloadN X0.here hx rfl (hb hby at_6) rfl (X0.ldcInt hx hown (mvT hZ (ow0 hw)) (g := (mkF m 7 #[.val (.int p0), .val (.int p1), .val (.int p2), .val (.int p3), .val (.int p4), .val (.int zi), .unset, .unset, .unset, .unset, .unset, .unset, .unset, .unset, .unset, .unset, .unset, .unset, .unset, .unset, .unset, .unset, .unset] [(.int p1)])) rfl (hb hby at_7) _ (XS.iand X0.here hx rfl (hb hby at_9) rfl (XS.bipush X0.here hx rfl (hb hby at_10) (iremM X0 hx rfl (hb hby at_12) rfl (by decide) (XS.istore X0.here hx rfl (hb hby at_13) rfl (l' := #[.val (.int p0), .val (.int p1), .val (.int p2), .val (.int p3), .val (.int p4), .val (.int zi), .val (.int ((p1 &&& (2147483647 : Int32)) % (9 : Int32))), .unset, .unset, .unset, .unset, .unset, .unset, .unset, .unset, .unset, .unset, .unset, .unset, .unset, .unset, .unset, .unset]) rfl k)))))) ?_
  generalize hzj : ((p1 &&& (2147483647 : Int32)) % (9 : Int32)) = zj
  refine own_goW (T' := s₁) (f' := (mkF m 21 #[.val (.int p0), .val (.int p1), .val (.int p2), .val (.int p3), .val (.int p4), .val (.int zi), .val (.int zj), .val (.int (p2 &&& (7 : Int32))), .unset, .unset, .unset, .unset, .unset, .unset, .unset, .unset, .unset, .unset, .unset, .unset, .unset, .unset, .unset] [])) (fun _ k => XS.iloadN X0.here hx rfl (hb hby at_15) rfl (XS.bipush X0.here hx rfl (hb hby at_16) (XS.iand X0.here hx rfl (hb hby at_18) rfl (XS.istore X0.here hx rfl (hb hby at_19) rfl (l' := #[.val (.int p0), .val (.int p1), .val (.int p2), .val (.int p3), .val (.int p4), .val (.int zi), .val (.int zj), .val (.int (p2 &&& (7 : Int32))), .unset, .unset, .unset, .unset, .unset, .unset, .unset, .unset, .unset, .unset, .unset, .unset, .unset, .unset, .unset]) rfl k)))) ?_
  generalize hze : (p2 &&& (7 : Int32)) = ze
  refine own_goW (T' := s₁) (f' := (mkF m 26 #[.val (.int p0), .val (.int p1), .val (.int p2), .val (.int p3), .val (.int p4), .val (.int zi), .val (.int zj), .val (.int ze), .unset, .unset, .unset, .unset, .unset, .unset, .unset, .unset, .unset, .unset, .unset, .unset, .unset, .unset, .unset] [(.int (p3 &&& (2147483647 : Int32))), (.int (1 : Int32))])) (fun _ k => XS.iconst X0.here hx rfl (hb hby at_21) (XS.iloadN X0.here hx rfl (hb hby at_22) rfl (X0.ldcInt hx hown (mvT hZ (ow0 hw)) (g := (mkF m 23 #[.val (.int p0), .val (.int p1), .val (.int p2), .val (.int p3), .val (.int p4), .val (.int zi), .val (.int zj), .val (.int ze), .unset, .unset, .unset, .unset, .unset, .unset, .unset, .unset, .unset, .unset, .unset, .unset, .unset, .unset, .unset] [(.int p3), (.int (1 : Int32))])) rfl (hb hby at_23) _ (XS.iand X0.here hx rfl (hb hby at_25) rfl k)))) ?_
  obtain ⟨_, T1, Lc1, X1, hQ1, st1⟩ := own_outC (Jvm.LawKit.callS X0 hx (y := mn0) hown (mvT hZ (ow1 hw)) (mvT hZ (ow2 hw)) (mvT hZ (ow3 hw)) (mvT hZ (ow4 hw)) (by decide) (backOf (W := 0) (rm1 l Z a0 hw [] (1 : Int32) (p3 &&& (2147483647 : Int32)) h0 n0 Z0) hZ (ow4 hw) (ow3 hw) (by decide) (by decide)) (g := (mkF m 26 #[.val (.int p0), .val (.int p1), .val (.int p2), .val (.int p3), .val (.int p4), .val (.int zi), .val (.int zj), .val (.int ze), .unset, .unset, .unset, .unset, .unset, .unset, .unset, .unset, .unset, .unset, .unset, .unset, .unset, .unset, .unset] [(.int (p3 &&& (2147483647 : Int32))), (.int (1 : Int32))])) rfl (by rw [hml]; rfl) (argsL := [(.int (1 : Int32)), (.int (p3 &&& (2147483647 : Int32)))]) (rest := []) (lenOf pd2 rfl) rfl (by show 2 * 0 + _ ≤ _; exact Nat.le_of_eq rfl) (hb hby at_26) (fun _ _ => ⟨rfl, e0, (by decide : 0 + 0 ≤ _), (by decide : 0 + 0 ≤ _)⟩))
  obtain ⟨rfl, N1q, hh1⟩ := hQ1
  have N1 := Fr.app N0 N1q
  obtain ⟨_, X1, N1⟩ := own_hide X1 N1
  refine own_goW (T' := T1) (f' := (mkF m 31 #[.val (.int p0), .val (.int p1), .val (.int p2), .val (.int p3), .val (.int p4), .val (.int zi), .val (.int zj), .val (.int ze), .val (.int (own_max (1 : Int32) (p3 &&& (2147483647 : Int32)))), .unset, .unset, .unset, .unset, .unset, .unset, .unset, .unset, .unset, .unset, .unset, .unset, .unset, .unset] [])) (fun _ k => st1 _ (XS.istore X1.here hx rfl (hb hby at_29) rfl (l' := #[.val (.int p0), .val (.int p1), .val (.int p2), .val (.int p3), .val (.int p4), .val (.int zi), .val (.int zj), .val (.int ze), .val (.int (own_max (1 : Int32) (p3 &&& (2147483647 : Int32)))), .unset, .unset, .unset, .unset, .unset, .unset, .unset, .unset, .unset, .unset, .unset, .unset, .unset, .unset]) rfl k)) ?_
  generalize hzf : (own_max (1 : Int32) (p3 &&& (2147483647 : Int32))) = zf
  refine own_goW (T' := T1) (f' := (mkF m 38 #[.val (.int p0), .val (.int p1), .val (.int p2), .val (.int p3), .val (.int p4), .val (.int zi), .val (.int zj), .val (.int ze), .val (.int zf), .val (.int (p4 &&& (2147483647 : Int32))), .unset, .unset, .unset, .unset, .unset, .unset, .unset, .unset, .unset, .unset, .unset, .unset, .unset] [])) (fun _ k => XS.iload X1.here hx rfl (hb hby at_31) rfl (X1.ldcInt hx hown (mvT hZ (ow0 hw)) (g := (mkF m 33 #[.val (.int p0), .val (.int p1), .val (.int p2), .val (.int p3), .val (.int p4), .val (.int zi), .val (.int zj), .val (.int ze), .val (.int zf), .unset, .unset, .unset, .unset, .unset, .unset, .unset, .unset, .unset, .unset, .unset, .unset, .unset, .unset] [(.int p4)])) rfl (hb hby at_33) _ (XS.iand X1.here hx rfl (hb hby at_35) rfl (XS.istore X1.here hx rfl (hb hby at_36) rfl (l' := #[.val (.int p0), .val (.int p1), .val (.int p2), .val (.int p3), .val (.int p4), .val (.int zi), .val (.int zj), .val (.int ze), .val (.int zf), .val (.int (p4 &&& (2147483647 : Int32))), .unset, .unset, .unset, .unset, .unset, .unset, .unset, .unset, .unset, .unset, .unset, .unset, .unset]) rfl k)))) ?_
  generalize hzl : (p4 &&& (2147483647 : Int32)) = zl
  have hi : 0 ≤ zi.toInt ∧ zi.toInt ≤ 15 := by rw [← hzi]; exact own_q1 _
  have hj : 0 ≤ zj.toInt ∧ zj.toInt ≤ 8 := by rw [← hzj]; exact own_q2 _
  have he : 0 ≤ ze.toInt ∧ ze.toInt ≤ 7 := by rw [← hze]; exact own_q3 _
  have hf : 1 ≤ zf.toInt := by rw [← hzf]; exact own_q4 _
  have hl : 0 ≤ zl.toInt := by rw [← hzl]; exact own_q5 _
  have FI := own_fin hi hj he hf hl
  have c2 := (own_kq hi).inf
  obtain ⟨o1, c1, q1⟩ := own_c1 hi
  obtain ⟨o3, c3, q3⟩ := own_c3 hj
  obtain ⟨o4, c4, q4⟩ := own_c4 hj
  refine own_goW (T' := T1) (f' := (mkF m 45 #[.val (.int p0), .val (.int p1), .val (.int p2), .val (.int p3), .val (.int p4), .val (.int zi), .val (.int zj), .val (.int ze), .val (.int zf), .val (.int zl), .val (.double (FP.i2d ((1 : Int32) <<< (ze &&& 31)))), .second, .unset, .unset, .unset, .unset, .unset, .unset, .unset, .unset, .unset, .unset, .unset] [])) (fun _ k => XS.iconst X1.here hx rfl (hb hby at_38) (XS.iload X1.here hx rfl (hb hby at_39) rfl (XS.ishl X1.here hx rfl (hb hby at_41) rfl (own_i2d X1.here hx rfl (hb hby at_42) rfl (own_dstore X1.here hx rfl (hb hby at_43) rfl (l' := #[.val (.int p0), .val (.int p1), .val (.int p2), .val (.int p3), .val (.int p4), .val (.int zi), .val (.int zj), .val (.int ze), .val (.int zf), .val (.int zl), .val (.double (FP.i2d ((1 : Int32) <<< (ze &&& 31)))), .second, .unset, .unset, .unset, .unset, .unset, .unset, .unset, .unset, .unset, .unset, .unset]) rfl k))))) ?_
  obtain ⟨T2, h2, X2, e2, E2, A2, D2, -, st2⟩ := newO X1 hx hZ hown (ow5 hw) (ow6 hw) (ow7 hw) hh1 (g := (mkF m 45 #[.val (.int p0), .val (.int p1), .val (.int p2), .val (.int p3), .val (.int p4), .val (.int zi), .val (.int zj), .val (.int ze), .val (.int zf), .val (.int zl), .val (.double (FP.i2d ((1 : Int32) <<< (ze &&& 31)))), .second, .unset, .unset, .unset, .unset, .unset, .unset, .unset, .unset, .unset, .unset, .unset] [])) rfl (hb hby at_45) (by decide) (by decide)
  obtain ⟨b2, g_b2⟩ : ∃ z, z = h0.size := ⟨_, rfl⟩
  have sg_b2 : h0.size ≤ b2 := Nat.le_of_eq g_b2.symm
  rw [← g_b2] at A2 D2 st2
  have n_b2 : n0 ≤ b2 := Nat.le_trans Z0 (Nat.le_of_eq g_b2.symm)
  have sz_b2 : h0.size ≤ b2 := Nat.le_trans (Keep.refl h0 []).1 (Nat.le_of_eq g_b2.symm)
  have K2 : Keep h0 h2 [] := (Keep.refl h0 []).ext E2
  have F_k1_b2 : Fld Z h2 b2 "com/example/feedback/feedback/search/Bm25" "k1" "D" (.double (0 : UInt64)) := D2 (Or.inr (ow30 hw)) (ty := .double) (by decide)
  have F_b_b2 : Fld Z h2 b2 "com/example/feedback/feedback/search/Bm25" "b" "D" (.double (0 : UInt64)) := D2 (Or.inr (ow32 hw)) (ty := .double) (by decide)
  refine own_goW (T' := T2) (f' := (mkF m 56 #[.val (.int p0), .val (.int p1), .val (.int p2), .val (.int p3), .val (.int p4), .val (.int zi), .val (.int zj), .val (.int ze), .val (.int zf), .val (.int zl), .val (.double (FP.i2d ((1 : Int32) <<< (ze &&& 31)))), .second, .unset, .unset, .unset, .unset, .unset, .unset, .unset, .unset, .unset, .unset, .unset] [(.double (FP.ddiv (FP.i2d zi) (4616189618054758400 : UInt64))), (.ref b2), (.ref b2)])) (fun _ k => st2 _ (XS.dup X2.here hx rfl (hb hby at_48) rfl rfl (XS.iload X2.here hx rfl (hb hby at_49) rfl (own_i2d X2.here hx rfl (hb hby at_51) rfl (X2.ldc2DoubleC hx hown (mvT hZ (ow8 hw)) (g := (mkF m 52 #[.val (.int p0), .val (.int p1), .val (.int p2), .val (.int p3), .val (.int p4), .val (.int zi), .val (.int zj), .val (.int ze), .val (.int zf), .val (.int zl), .val (.double (FP.i2d ((1 : Int32) <<< (ze &&& 31)))), .second, .unset, .unset, .unset, .unset, .unset, .unset, .unset, .unset, .unset, .unset, .unset] [(.double (FP.i2d zi)), (.ref b2), (.ref b2)])) rfl (hb hby at_52) _ (XS.ddivS X2.here hx rfl (hb hby at_55) rfl (own_kq hi).nn rfl k)))))) ?_
  refine own_goW (T' := T2) (f' := (mkF m 63 #[.val (.int p0), .val (.int p1), .val (.int p2), .val (.int p3), .val (.int p4), .val (.int zi), .val (.int zj), .val (.int ze), .val (.int zf), .val (.int zl), .val (.double (FP.i2d ((1 : Int32) <<< (ze &&& 31)))), .second, .unset, .unset, .unset, .unset, .unset, .unset, .unset, .unset, .unset, .unset, .unset] [(.double (FP.ddiv (FP.i2d zj) (4620693217682128896 : UInt64))), (.double (own_k zi)), (.ref b2), (.ref b2)])) (fun _ k => XS.iload X2.here hx rfl (hb hby at_56) rfl (own_i2d X2.here hx rfl (hb hby at_58) rfl (X2.ldc2DoubleC hx hown (mvT hZ (ow9 hw)) (g := (mkF m 59 #[.val (.int p0), .val (.int p1), .val (.int p2), .val (.int p3), .val (.int p4), .val (.int zi), .val (.int zj), .val (.int ze), .val (.int zf), .val (.int zl), .val (.double (FP.i2d ((1 : Int32) <<< (ze &&& 31)))), .second, .unset, .unset, .unset, .unset, .unset, .unset, .unset, .unset, .unset, .unset, .unset] [(.double (FP.i2d zj)), (.double (own_k zi)), (.ref b2), (.ref b2)])) rfl (hb hby at_59) _ (XS.ddivS X2.here hx rfl (hb hby at_62) rfl (own_bq hj).nn rfl k)))) ?_
  obtain ⟨_, T3, Lc3, X3, hS3, hgr3, hQ3, st3⟩ := own_outS (X2.specialBackS hx (y := mn2) rfl hown (mvT hZ (ow10 hw)) (mvT hZ (ow11 hw)) (mvT hZ (ow12 hw)) (by decide) (own_backS (W := 1) (rm2 l Z a0 hw [] (s.setVm s.vm) b2 (own_k zi) (own_b zj) _ _ o1 o3 o4 h2 n0 (Nat.le_trans Z0 E2.1) A2 n_b2 F_k1_b2 F_b_b2 c1 q1 c2 c3 q3 c4 q4) hZ (ow12 hw) (ow7 hw) (by decide) (by decide)) (g := (mkF m 63 #[.val (.int p0), .val (.int p1), .val (.int p2), .val (.int p3), .val (.int p4), .val (.int zi), .val (.int zj), .val (.int ze), .val (.int zf), .val (.int zl), .val (.double (FP.i2d ((1 : Int32) <<< (ze &&& 31)))), .second, .unset, .unset, .unset, .unset, .unset, .unset, .unset, .unset, .unset, .unset, .unset] [(.double (own_b zj)), (.double (own_k zi)), (.ref b2), (.ref b2)])) rfl (by rw [hml]; rfl) (Steps.refl _) (a := b2) (argsL := [(.double (own_k zi)), (.double (own_b zj))]) (rest := [(.ref b2)]) (lenOf pd1 rfl) rfl (by show 2 * 0 + _ ≤ _; exact Nat.le_of_eq rfl) (hb hby at_63) (fun _ _ => ⟨rfl, e2, (by decide : 1 + 2 ≤ _), (by decide : 2 + 12 ≤ _)⟩))
  have hM3 := hS3
  obtain ⟨X3, hS, hZ, hown⟩ := rebS hS (by rw [e2]; exact (Nat.le_trans (Nat.le_refl _) E2.1) : _ ≤ T2.heap.size) X3 hM3 hgr3 hZ hown
  obtain ⟨rfl, N3q, K3, gE3, gF3, gG3⟩ := hQ3
  have N3 := Fr.app N1 N3q
  have eK3 : T3.heap = T3.heap := rfl
  have KK3 : Keep h0 T3.heap [] := Keep.trans K2 K3 (allS (Or.inr sz_b2) all0)
  obtain ⟨_, X3, N3⟩ := own_hide X3 N3
  refine own_goW (T' := T3) (f' := (mkF m 76 #[.val (.int p0), .val (.int p1), .val (.int p2), .val (.int p3), .val (.int p4), .val (.int zi), .val (.int zj), .val (.int ze), .val (.int zf), .val (.int zl), .val (.double (FP.i2d ((1 : Int32) <<< (ze &&& 31)))), .second, .val (.ref b2), .unset, .unset, .unset, .unset, .unset, .unset, .unset, .unset, .unset, .unset] [(.double (FP.i2d ((1 : Int32) <<< (ze &&& 31)))), (.int zl), (.int zf), (.ref b2)])) (fun _ k => st3.trans (XS.astore X3.here hx rfl (hb hby at_66) rfl rfl (l' := #[.val (.int p0), .val (.int p1), .val (.int p2), .val (.int p3), .val (.int p4), .val (.int zi), .val (.int zj), .val (.int ze), .val (.int zf), .val (.int zl), .val (.double (FP.i2d ((1 : Int32) <<< (ze &&& 31)))), .second, .val (.ref b2), .unset, .unset, .unset, .unset, .unset, .unset, .unset, .unset, .unset, .unset]) rfl (XS.aload X3.here hx rfl (hb hby at_68) rfl rfl (XS.iload X3.here hx rfl (hb hby at_70) rfl (XS.iload X3.here hx rfl (hb hby at_72) rfl (own_dload X3.here hx rfl (hb hby at_74) rfl k)))))) ?_
  obtain ⟨cq4, kq4, q4a, q4b, q4c⟩ := isOf hZ eK3 gE3
  obtain ⟨_, T4, Lc4, X4, hQ4, st4⟩ := own_out (X3.virtualBack hx (y := mn3) (z := mn3) hown (mvT hZ (ow33 hw)) (mvT hZ (ow34 hw)) (notFace_of_selects (args := #[]) (mvT hZ (ow36 hw))) (mvT hZ (ow36 hw)) (mvT hZ (ow35 hw)) (by decide) (backOf (W := 0) (rm5 l Z a0 hw [] b2 zf zl (FP.i2d ((1 : Int32) <<< (ze &&& 31))) (own_k zi) (own_b zj) T3.heap n0 (Nat.le_trans (Nat.le_trans Z0 E2.1) K3.1) gF3 gG3 FI.1) hZ (ow37 hw) (ow7 hw) (by decide) (by decide)) q4a q4c (g := (mkF m 76 #[.val (.int p0), .val (.int p1), .val (.int p2), .val (.int p3), .val (.int p4), .val (.int zi), .val (.int zj), .val (.int ze), .val (.int zf), .val (.int zl), .val (.double (FP.i2d ((1 : Int32) <<< (ze &&& 31)))), .second, .val (.ref b2), .unset, .unset, .unset, .unset, .unset, .unset, .unset, .unset, .unset, .unset] [(.double (FP.i2d ((1 : Int32) <<< (ze &&& 31)))), (.int zl), (.int zf), (.ref b2)])) rfl (by rw [hml]; rfl) (Steps.refl _) (argsL := [(.int zf), (.int zl), (.double (FP.i2d ((1 : Int32) <<< (ze &&& 31))))]) (rest := []) (lenOf pd3 rfl) rfl (by show 2 * 0 + _ ≤ _; exact Nat.le_of_eq rfl) (hb hby at_76) (fun _ _ => ⟨rfl, eK3, (by decide : 3 + 0 ≤ _), (by decide : 14 + 0 ≤ _)⟩))
  obtain ⟨rfl, N4q, hh4⟩ := hQ4
  have N4 := Fr.app N3 N4q
  obtain ⟨_, X4, N4⟩ := own_hide X4 N4
  refine own_goW (T' := T4) (f' := (mkF m 87 #[.val (.int p0), .val (.int p1), .val (.int p2), .val (.int p3), .val (.int p4), .val (.int zi), .val (.int zj), .val (.int ze), .val (.int zf), .val (.int zl), .val (.double (FP.i2d ((1 : Int32) <<< (ze &&& 31)))), .second, .val (.ref b2), .val (.double (own_tf (own_k zi) (own_b zj) zf zl (FP.i2d ((1 : Int32) <<< (ze &&& 31))))), .second, .val (.long ((1 : Int64) <<< (ze &&& 0x3f).toInt64)), .second, .unset, .unset, .unset, .unset, .unset, .unset] [])) (fun _ k => st4.trans (own_dstore X4.here hx rfl (hb hby at_79) rfl (l' := #[.val (.int p0), .val (.int p1), .val (.int p2), .val (.int p3), .val (.int p4), .val (.int zi), .val (.int zj), .val (.int ze), .val (.int zf), .val (.int zl), .val (.double (FP.i2d ((1 : Int32) <<< (ze &&& 31)))), .second, .val (.ref b2), .val (.double (own_tf (own_k zi) (own_b zj) zf zl (FP.i2d ((1 : Int32) <<< (ze &&& 31))))), .second, .unset, .unset, .unset, .unset, .unset, .unset, .unset, .unset]) rfl (XS.lconst X4.here hx rfl (hb hby at_81) (XS.iload X4.here hx rfl (hb hby at_82) rfl (XS.lshl X4.here hx rfl (hb hby at_84) rfl (XS.lstore X4.here hx rfl (hb hby at_85) rfl (l' := #[.val (.int p0), .val (.int p1), .val (.int p2), .val (.int p3), .val (.int p4), .val (.int zi), .val (.int zj), .val (.int ze), .val (.int zf), .val (.int zl), .val (.double (FP.i2d ((1 : Int32) <<< (ze &&& 31)))), .second, .val (.ref b2), .val (.double (own_tf (own_k zi) (own_b zj) zf zl (FP.i2d ((1 : Int32) <<< (ze &&& 31))))), .second, .val (.long ((1 : Int64) <<< (ze &&& 0x3f).toInt64)), .second, .unset, .unset, .unset, .unset, .unset, .unset]) rfl k)))))) ?_
  refine own_goW (T' := T4) (f' := (mkF m 96 #[.val (.int p0), .val (.int p1), .val (.int p2), .val (.int p3), .val (.int p4), .val (.int zi), .val (.int zj), .val (.int ze), .val (.int zf), .val (.int zl), .val (.double (FP.i2d ((1 : Int32) <<< (ze &&& 31)))), .second, .val (.ref b2), .val (.double (own_tf (own_k zi) (own_b zj) zf zl (FP.i2d ((1 : Int32) <<< (ze &&& 31))))), .second, .val (.long ((1 : Int64) <<< (ze &&& 0x3f).toInt64)), .second, .unset, .unset, .unset, .unset, .unset, .unset] [(.long ((((8 : Int32) - zj).toInt64) * ((1 : Int64) <<< (ze &&& 0x3f).toInt64)))])) (fun _ k => XS.bipush X4.here hx rfl (hb hby at_87) (XS.iload X4.here hx rfl (hb hby at_89) rfl (XS.isub X4.here hx rfl (hb hby at_91) rfl (XS.i2l X4.here hx rfl (hb hby at_92) rfl (XS.lload X4.here hx rfl (hb hby at_93) rfl (XS.lmul X4.here hx rfl (hb hby at_95) rfl k)))))) ?_
  refine own_goW (T' := T4) (f' := (mkF m 104 #[.val (.int p0), .val (.int p1), .val (.int p2), .val (.int p3), .val (.int p4), .val (.int zi), .val (.int zj), .val (.int ze), .val (.int zf), .val (.int zl), .val (.double (FP.i2d ((1 : Int32) <<< (ze &&& 31)))), .second, .val (.ref b2), .val (.double (own_tf (own_k zi) (own_b zj) zf zl (FP.i2d ((1 : Int32) <<< (ze &&& 31))))), .second, .val (.long ((1 : Int64) <<< (ze &&& 0x3f).toInt64)), .second, .unset, .unset, .unset, .unset, .unset, .unset] [(.long (((((8 : Int32) - zj).toInt64) * ((1 : Int64) <<< (ze &&& 0x3f).toInt64)) + ((zj.toInt64) * (zl.toInt64))))])) (fun _ k => XS.iload X4.here hx rfl (hb hby at_96) rfl (XS.i2l X4.here hx rfl (hb hby at_98) rfl (XS.iload X4.here hx rfl (hb hby at_99) rfl (XS.i2l X4.here hx rfl (hb hby at_101) rfl (XS.lmul X4.here hx rfl (hb hby at_102) rfl (XS.ladd X4.here hx rfl (hb hby at_103) rfl k)))))) ?_
  refine own_goW (T' := T4) (f' := (mkF m 113 #[.val (.int p0), .val (.int p1), .val (.int p2), .val (.int p3), .val (.int p4), .val (.int zi), .val (.int zj), .val (.int ze), .val (.int zf), .val (.int zl), .val (.double (FP.i2d ((1 : Int32) <<< (ze &&& 31)))), .second, .val (.ref b2), .val (.double (own_tf (own_k zi) (own_b zj) zf zl (FP.i2d ((1 : Int32) <<< (ze &&& 31))))), .second, .val (.long ((1 : Int64) <<< (ze &&& 0x3f).toInt64)), .second, .val (.long (((((8 : Int32) - zj).toInt64) * ((1 : Int64) <<< (ze &&& 0x3f).toInt64)) + ((zj.toInt64) * (zl.toInt64)))), .second, .unset, .unset, .unset, .unset] [(.int zf), (.long ((zi + (4 : Int32)).toInt64))])) (fun _ k => XS.lstore X4.here hx rfl (hb hby at_104) rfl (l' := #[.val (.int p0), .val (.int p1), .val (.int p2), .val (.int p3), .val (.int p4), .val (.int zi), .val (.int zj), .val (.int ze), .val (.int zf), .val (.int zl), .val (.double (FP.i2d ((1 : Int32) <<< (ze &&& 31)))), .second, .val (.ref b2), .val (.double (own_tf (own_k zi) (own_b zj) zf zl (FP.i2d ((1 : Int32) <<< (ze &&& 31))))), .second, .val (.long ((1 : Int64) <<< (ze &&& 0x3f).toInt64)), .second, .val (.long (((((8 : Int32) - zj).toInt64) * ((1 : Int64) <<< (ze &&& 0x3f).toInt64)) + ((zj.toInt64) * (zl.toInt64)))), .second, .unset, .unset, .unset, .unset]) rfl (XS.iload X4.here hx rfl (hb hby at_106) rfl (XS.iconst X4.here hx rfl (hb hby at_108) (XS.iadd X4.here hx rfl (hb hby at_109) rfl (XS.i2l X4.here hx rfl (hb hby at_110) rfl (XS.iload X4.here hx rfl (hb hby at_111) rfl k)))))) ?_
  refine own_goW (T' := T4) (f' := (mkF m 122 #[.val (.int p0), .val (.int p1), .val (.int p2), .val (.int p3), .val (.int p4), .val (.int zi), .val (.int zj), .val (.int ze), .val (.int zf), .val (.int zl), .val (.double (FP.i2d ((1 : Int32) <<< (ze &&& 31)))), .second, .val (.ref b2), .val (.double (own_tf (own_k zi) (own_b zj) zf zl (FP.i2d ((1 : Int32) <<< (ze &&& 31))))), .second, .val (.long ((1 : Int64) <<< (ze &&& 0x3f).toInt64)), .second, .val (.long (((((8 : Int32) - zj).toInt64) * ((1 : Int64) <<< (ze &&& 0x3f).toInt64)) + ((zj.toInt64) * (zl.toInt64)))), .second, .unset, .unset, .unset, .unset] [(.long (((((zi + (4 : Int32)).toInt64) * (zf.toInt64)) * (8 : Int64)) * ((1 : Int64) <<< (ze &&& 0x3f).toInt64)))])) (fun _ k => XS.i2l X4.here hx rfl (hb hby at_113) rfl (XS.lmul X4.here hx rfl (hb hby at_114) rfl (X4.ldc2Long hx hown (mvT hZ (ow38 hw)) (g := (mkF m 115 #[.val (.int p0), .val (.int p1), .val (.int p2), .val (.int p3), .val (.int p4), .val (.int zi), .val (.int zj), .val (.int ze), .val (.int zf), .val (.int zl), .val (.double (FP.i2d ((1 : Int32) <<< (ze &&& 31)))), .second, .val (.ref b2), .val (.double (own_tf (own_k zi) (own_b zj) zf zl (FP.i2d ((1 : Int32) <<< (ze &&& 31))))), .second, .val (.long ((1 : Int64) <<< (ze &&& 0x3f).toInt64)), .second, .val (.long (((((8 : Int32) - zj).toInt64) * ((1 : Int64) <<< (ze &&& 0x3f).toInt64)) + ((zj.toInt64) * (zl.toInt64)))), .second, .unset, .unset, .unset, .unset] [(.long (((zi + (4 : Int32)).toInt64) * (zf.toInt64)))])) rfl (hb hby at_115) _ (XS.lmul X4.here hx rfl (hb hby at_118) rfl (XS.lload X4.here hx rfl (hb hby at_119) rfl (XS.lmul X4.here hx rfl (hb hby at_121) rfl k)))))) ?_
  refine own_goW (T' := T4) (f' := (mkF m 133 #[.val (.int p0), .val (.int p1), .val (.int p2), .val (.int p3), .val (.int p4), .val (.int zi), .val (.int zj), .val (.int ze), .val (.int zf), .val (.int zl), .val (.double (FP.i2d ((1 : Int32) <<< (ze &&& 31)))), .second, .val (.ref b2), .val (.double (own_tf (own_k zi) (own_b zj) zf zl (FP.i2d ((1 : Int32) <<< (ze &&& 31))))), .second, .val (.long ((1 : Int64) <<< (ze &&& 0x3f).toInt64)), .second, .val (.long (((((8 : Int32) - zj).toInt64) * ((1 : Int64) <<< (ze &&& 0x3f).toInt64)) + ((zj.toInt64) * (zl.toInt64)))), .second, .val (.long (((((zi + (4 : Int32)).toInt64) * (zf.toInt64)) * (8 : Int64)) * ((1 : Int64) <<< (ze &&& 0x3f).toInt64))), .second, .unset, .unset] [(.long ((1 : Int64) <<< (ze &&& 0x3f).toInt64)), (.long ((zf.toInt64) * (32 : Int64)))])) (fun _ k => XS.lstore X4.here hx rfl (hb hby at_122) rfl (l' := #[.val (.int p0), .val (.int p1), .val (.int p2), .val (.int p3), .val (.int p4), .val (.int zi), .val (.int zj), .val (.int ze), .val (.int zf), .val (.int zl), .val (.double (FP.i2d ((1 : Int32) <<< (ze &&& 31)))), .second, .val (.ref b2), .val (.double (own_tf (own_k zi) (own_b zj) zf zl (FP.i2d ((1 : Int32) <<< (ze &&& 31))))), .second, .val (.long ((1 : Int64) <<< (ze &&& 0x3f).toInt64)), .second, .val (.long (((((8 : Int32) - zj).toInt64) * ((1 : Int64) <<< (ze &&& 0x3f).toInt64)) + ((zj.toInt64) * (zl.toInt64)))), .second, .val (.long (((((zi + (4 : Int32)).toInt64) * (zf.toInt64)) * (8 : Int64)) * ((1 : Int64) <<< (ze &&& 0x3f).toInt64))), .second, .unset, .unset]) rfl (XS.iload X4.here hx rfl (hb hby at_124) rfl (XS.i2l X4.here hx rfl (hb hby at_126) rfl (X4.ldc2Long hx hown (mvT hZ (ow39 hw)) (g := (mkF m 127 #[.val (.int p0), .val (.int p1), .val (.int p2), .val (.int p3), .val (.int p4), .val (.int zi), .val (.int zj), .val (.int ze), .val (.int zf), .val (.int zl), .val (.double (FP.i2d ((1 : Int32) <<< (ze &&& 31)))), .second, .val (.ref b2), .val (.double (own_tf (own_k zi) (own_b zj) zf zl (FP.i2d ((1 : Int32) <<< (ze &&& 31))))), .second, .val (.long ((1 : Int64) <<< (ze &&& 0x3f).toInt64)), .second, .val (.long (((((8 : Int32) - zj).toInt64) * ((1 : Int64) <<< (ze &&& 0x3f).toInt64)) + ((zj.toInt64) * (zl.toInt64)))), .second, .val (.long (((((zi + (4 : Int32)).toInt64) * (zf.toInt64)) * (8 : Int64)) * ((1 : Int64) <<< (ze &&& 0x3f).toInt64))), .second, .unset, .unset] [(.long (zf.toInt64))])) rfl (hb hby at_127) _ (XS.lmul X4.here hx rfl (hb hby at_130) rfl (XS.lload X4.here hx rfl (hb hby at_131) rfl k)))))) ?_
  refine own_goW (T' := T4) (f' := (mkF m 141 #[.val (.int p0), .val (.int p1), .val (.int p2), .val (.int p3), .val (.int p4), .val (.int zi), .val (.int zj), .val (.int ze), .val (.int zf), .val (.int zl), .val (.double (FP.i2d ((1 : Int32) <<< (ze &&& 31)))), .second, .val (.ref b2), .val (.double (own_tf (own_k zi) (own_b zj) zf zl (FP.i2d ((1 : Int32) <<< (ze &&& 31))))), .second, .val (.long ((1 : Int64) <<< (ze &&& 0x3f).toInt64)), .second, .val (.long (((((8 : Int32) - zj).toInt64) * ((1 : Int64) <<< (ze &&& 0x3f).toInt64)) + ((zj.toInt64) * (zl.toInt64)))), .second, .val (.long (((((zi + (4 : Int32)).toInt64) * (zf.toInt64)) * (8 : Int64)) * ((1 : Int64) <<< (ze &&& 0x3f).toInt64))), .second, .unset, .unset] [(.long ((((zf.toInt64) * (32 : Int64)) * ((1 : Int64) <<< (ze &&& 0x3f).toInt64)) + ((zi.toInt64) * (((((8 : Int32) - zj).toInt64) * ((1 : Int64) <<< (ze &&& 0x3f).toInt64)) + ((zj.toInt64) * (zl.toInt64))))))])) (fun _ k => XS.lmul X4.here hx rfl (hb hby at_133) rfl (XS.iload X4.here hx rfl (hb hby at_134) rfl (XS.i2l X4.here hx rfl (hb hby at_136) rfl (XS.lload X4.here hx rfl (hb hby at_137) rfl (XS.lmul X4.here hx rfl (hb hby at_139) rfl (XS.ladd X4.here hx rfl (hb hby at_140) rfl k)))))) ?_
  refine own_goW (T' := T4) (f' := (mkF m 151 #[.val (.int p0), .val (.int p1), .val (.int p2), .val (.int p3), .val (.int p4), .val (.int zi), .val (.int zj), .val (.int ze), .val (.int zf), .val (.int zl), .val (.double (FP.i2d ((1 : Int32) <<< (ze &&& 31)))), .second, .val (.ref b2), .val (.double (own_tf (own_k zi) (own_b zj) zf zl (FP.i2d ((1 : Int32) <<< (ze &&& 31))))), .second, .val (.long ((1 : Int64) <<< (ze &&& 0x3f).toInt64)), .second, .val (.long (((((8 : Int32) - zj).toInt64) * ((1 : Int64) <<< (ze &&& 0x3f).toInt64)) + ((zj.toInt64) * (zl.toInt64)))), .second, .val (.long (((((zi + (4 : Int32)).toInt64) * (zf.toInt64)) * (8 : Int64)) * ((1 : Int64) <<< (ze &&& 0x3f).toInt64))), .second, .val (.long ((((zf.toInt64) * (32 : Int64)) * ((1 : Int64) <<< (ze &&& 0x3f).toInt64)) + ((zi.toInt64) * (((((8 : Int32) - zj).toInt64) * ((1 : Int64) <<< (ze &&& 0x3f).toInt64)) + ((zj.toInt64) * (zl.toInt64)))))), .second] [(.double (FP.l2d ((((zf.toInt64) * (32 : Int64)) * ((1 : Int64) <<< (ze &&& 0x3f).toInt64)) + ((zi.toInt64) * (((((8 : Int32) - zj).toInt64) * ((1 : Int64) <<< (ze &&& 0x3f).toInt64)) + ((zj.toInt64) * (zl.toInt64))))))), (.double (FP.l2d (((((zi + (4 : Int32)).toInt64) * (zf.toInt64)) * (8 : Int64)) * ((1 : Int64) <<< (ze &&& 0x3f).toInt64)))), (.double (own_tf (own_k zi) (own_b zj) zf zl (FP.i2d ((1 : Int32) <<< (ze &&& 31)))))])) (fun _ k => XS.lstore X4.here hx rfl (hb hby at_141) rfl (l' := #[.val (.int p0), .val (.int p1), .val (.int p2), .val (.int p3), .val (.int p4), .val (.int zi), .val (.int zj), .val (.int ze), .val (.int zf), .val (.int zl), .val (.double (FP.i2d ((1 : Int32) <<< (ze &&& 31)))), .second, .val (.ref b2), .val (.double (own_tf (own_k zi) (own_b zj) zf zl (FP.i2d ((1 : Int32) <<< (ze &&& 31))))), .second, .val (.long ((1 : Int64) <<< (ze &&& 0x3f).toInt64)), .second, .val (.long (((((8 : Int32) - zj).toInt64) * ((1 : Int64) <<< (ze &&& 0x3f).toInt64)) + ((zj.toInt64) * (zl.toInt64)))), .second, .val (.long (((((zi + (4 : Int32)).toInt64) * (zf.toInt64)) * (8 : Int64)) * ((1 : Int64) <<< (ze &&& 0x3f).toInt64))), .second, .val (.long ((((zf.toInt64) * (32 : Int64)) * ((1 : Int64) <<< (ze &&& 0x3f).toInt64)) + ((zi.toInt64) * (((((8 : Int32) - zj).toInt64) * ((1 : Int64) <<< (ze &&& 0x3f).toInt64)) + ((zj.toInt64) * (zl.toInt64)))))), .second]) rfl (own_dload X4.here hx rfl (hb hby at_143) rfl (XS.lload X4.here hx rfl (hb hby at_145) rfl (own_l2d X4.here hx rfl (hb hby at_147) rfl (XS.lload X4.here hx rfl (hb hby at_148) rfl (own_l2d X4.here hx rfl (hb hby at_150) rfl k)))))) ?_
  refine own_goW (T' := T4) (f' := (mkF m 161 #[.val (.int p0), .val (.int p1), .val (.int p2), .val (.int p3), .val (.int p4), .val (.int zi), .val (.int zj), .val (.int ze), .val (.int zf), .val (.int zl), .val (.double (FP.i2d ((1 : Int32) <<< (ze &&& 31)))), .second, .val (.ref b2), .val (.double (own_tf (own_k zi) (own_b zj) zf zl (FP.i2d ((1 : Int32) <<< (ze &&& 31))))), .second, .val (.long ((1 : Int64) <<< (ze &&& 0x3f).toInt64)), .second, .val (.long (((((8 : Int32) - zj).toInt64) * ((1 : Int64) <<< (ze &&& 0x3f).toInt64)) + ((zj.toInt64) * (zl.toInt64)))), .second, .val (.long (((((zi + (4 : Int32)).toInt64) * (zf.toInt64)) * (8 : Int64)) * ((1 : Int64) <<< (ze &&& 0x3f).toInt64))), .second, .val (.long ((((zf.toInt64) * (32 : Int64)) * ((1 : Int64) <<< (ze &&& 0x3f).toInt64)) + ((zi.toInt64) * (((((8 : Int32) - zj).toInt64) * ((1 : Int64) <<< (ze &&& 0x3f).toInt64)) + ((zj.toInt64) * (zl.toInt64)))))), .second] [(.int (1 : Int32))])) (fun _ k => XS.ddivS X4.here hx rfl (hb hby at_151) rfl (FI.2 ▸ FI.1.2.2.2.2.2.2.2.2) rfl (own_dcmp (o := .eq) X4.here hx rfl (hb hby at_152) rfl (own_eq FI.2 FI.1.2.2.2.2.2.2.2.2) (XS.ifNo X4.here hx rfl (hb hby at_153) rfl ((if0 _ _).trans (teq (by decide : ((0 : Int32) = (0 : Int32)))).2) (XS.iconst X4.here hx rfl (hb hby at_156) (XS.goto X4.here hx rfl (pc0 := 157) (pc' := 161) rfl (hb hby at_157) (by decide) (by decide) k))))) ?_
  refine own_retW X4 hS (by rw [hh4]; exact (Nat.le_refl _)) (v := some (.int (1 : Int32))) (fun h => by rw [Bd.returns] at h; cases h) Bd.notSynchronized (fun fs hr => retN X4 hx (t := .boolean) Bd.returns (by simp) (hb hby at_161) hr) ?_ (by decide) (by decide)
  show Q0 Z B p0 p1 p2 p3 p4 h0 n0 _ T4.heap T4.vm _
  exact ⟨rfl, N4⟩
set_option maxRecDepth 65536 in
set_option maxHeartbeats 40000000 in
theorem comes_1 {Post : Tables → Env → Array Value → State → Outcome → State → Prop} (hpost : ∀ tb e args s v u, (limb_1_1.after args s (.returned v) u = true ∧ limb_1_2.after args s (.returned v) u = true ∧ True) → ReturnedEndW s (.returned v) u (Jvm.fieldLocs frame_1_writes args s ++ Jvm.arrayLocs frame_1_arrays args s ++ Jvm.staticLocs frame_1_statics s) 16 1152 → Post tb e args s (.returned v) u) :
    ArmFor flags0 classFile x code maxLocals ret World_1 tables_1 room_1 Calls_1 rest_1 Pre_1 Post := by
  intro l hfl _ _ p e ha hc hk s m args below hf hA hF happ hP
  obtain ⟨hcalls, hrest, hpre⟩ := hP
  obtain ⟨-, -, -, hnamed, -, -, -, hat⟩ := (Spec.applies_iff hf).mp happ
  obtain ⟨hg, hn⟩ := and_e (Cond.before_iff.mp (show (Jvm.Cond.and given_1 narrow_1).before args s = true from hpre))
  obtain ⟨hg_2, hg_3⟩ := and_e hg
  obtain ⟨hg_4, hg_5⟩ := and_e hg_3
  obtain ⟨hg_6, hg_7⟩ := and_e hg_5
  obtain ⟨hg_8, hg_9⟩ := and_e hg_7
  obtain ⟨hg_10, hg_11⟩ := and_e hg_9
  obtain ⟨w0, w1, w2, w3, w4, rfl⟩ : ∃ w0 w1 w2 w3 w4 : Value, args = #[w0, w1, w2, w3, w4] := by
    have hs : args.size = 5 := by simpa [Cond.value, given_1] using hg_2
    obtain ⟨L⟩ := args
    match L, hs with
    | [w0, w1, w2, w3, w4], _ => exact ⟨w0, w1, w2, w3, w4, rfl⟩
  have hw := fun d (hd : d ∈ tables_1) => atoms_spec (ws := Jvm.Cond.code x code maxLocals ret :: tables_1) hat d (List.mem_cons_of_mem _ hd)
  have hfit : Fit s := fun {y c} hc i hi => by
    obtain ⟨ha, rfl⟩ := Array.getElem?_eq_some_iff.mp hc
    have q := List.all_eq_true.mp ((Array.all_eq_true_iff_forall_mem.mp hF) _ (Array.getElem_mem ha)) i (List.mem_range.mpr hi)
    simpa [Array.getElem?_eq_getElem hi] using q
  obtain ⟨i0, ei0⟩ := is_v hg_4
  obtain rfl : w0 = (.int i0) := Option.some.inj ei0
  obtain ⟨i1, ei1⟩ := is_v hg_6
  obtain rfl : w1 = (.int i1) := Option.some.inj ei1
  obtain ⟨i2, ei2⟩ := is_v hg_8
  obtain rfl : w2 = (.int i2) := Option.some.inj ei2
  obtain ⟨i3, ei3⟩ := is_v hg_10
  obtain rfl : w3 = (.int i3) := Option.some.inj ei3
  obtain ⟨i4, ei4⟩ := is_v hg_11
  obtain rfl : w4 = (.int i4) := Option.some.inj ei4
  obtain ⟨n, o, h1, h2, h3, _, L, rfl, ⟨rfl, N⟩, hq⟩ := rm0 l s _ hw tables_1 s i0 i1 i2 i3 i4 s.heap s.heap.size (Nat.le_refl _) p e ha hc hk s m _ below hf ((Spec.applies_iff_loose hf).mp happ).1 ⟨rfl, State.Warmed39.refl s, State.WarmedH.refl s, rfl⟩ trivial
  refine ⟨n, _, h1, h2, h3, hpost _ _ _ _ _ _ ⟨Cond.after_iff.mpr rfl, Cond.after_iff.mpr (eq_i res_at (Term.int_eval (1)) rfl), trivial⟩ ⟨hq.1, hq.2.1, hq.2.2.1, (hq.2.2.2.sift fun y hy => Or.inr (N y hy)).mono (by decide) (by decide)⟩⟩
theorem main_1_1 : Claimed_1_1 := comes_1 fun _ _ _ _ _ _ h hF => ⟨h.1, hF⟩
theorem main_1_2 : Claimed_1_2 := comes_1 fun _ _ _ _ _ _ h hF => ⟨h.2.1, hF⟩
end Jvm.Pilot.@@N@@
namespace Jvm.Pilot.@@N@@
open Jvm Jvm.ClassFile Sem Op Lib Jvm.Free Jvm.Stand Jvm.Pilot.@@N@@.Jvm.D
/-! MADE BY PROGRAM (witnessworld.py) out of the Statement's table words and the real class files: 16 classes; the members and pool entries that the words name. The judged class is class 1, her method 1. -/
namespace start1
open Jvm.ClassFile
def u (s : String) : CpInfo := .utf8 (stringToUtf16 s)
/-- a pool by its gaps: so many unusable entries, then the entry; so many at the end -/
def gap : Nat → List CpInfo → List CpInfo
  | 0, r => r
  | n + 1, r => .unusable :: gap n r
def poolList (es : List (Nat × CpInfo)) (last : Nat) : List CpInfo := es.foldr (fun e r => gap e.1 (e.2 :: r)) (gap last [])
def pool (es : List (Nat × CpInfo)) (last : Nat) : Array CpInfo := ⟨poolList es last⟩
def fileOf (pool : Array CpInfo) (this : Nat) (attrs : Array Attribute := #[]) (ms : Array MethodInfo := #[]) (fl : Nat := 33) (sup : Nat := 0) (ifs : Array Nat := #[]) (fds : Array FieldInfo := #[]) : ClassFile where
  minorVersion := 0
  majorVersion := 65
  constantPool := pool
  accessFlags := fl
  thisClass := this
  superClass := sup
  interfaces := ifs
  fields := fds
  methods := ms
  attributes := attrs
def plain (name : String) (sup : Option ClassId) : Class where
  name := name
  kind := .ordinary
  loader := none
  accessFlags := 33
  super := sup
  interfaces := #[]
  cf := none
  fields := #[]
  methods := #[]
  instanceTypes := #[]
  staticTypes := #[]
  resolved := #[]
  callSites := []
  init := .initialized
  statics := none
  mirror := none

def pool0 : Array CpInfo := pool [(5, u "<init>"), (0, u "()V"), (1, .class_ 10), (1, u "java/lang/Object")] 113

def k0c0 : Code := { maxStack := 0, maxLocals := 1, code := object_method_1_code, exceptionTable := #[], attributes := #[] }
def k0m0 : Method := { name := "<init>", desc := "()V", sig := { parameters := [], returnType := none }, accessFlags := 1, code := some k0c0 }
/-- java/lang/Object -/
def k0 : Class := { plain "java/lang/Object" none with
  accessFlags := 33
  interfaces := #[]
  cf := some (fileOf pool0 8 #[] #[{ accessFlags := 1, nameIndex := 5, descriptorIndex := 6, attributes := #[] }] 33 0 #[] #[])
  fields := #[]
  methods := #[k0m0]
  instanceTypes := #[]
  staticTypes := #[]
  resolved := Array.replicate 124 none
  statics := none }

def pool1 : Array CpInfo := pool [(2, .class_ 4), (1, u "java/lang/Object"), (0, u "<init>"), (0, u "()V"), (0, .integer 2147483647), (0, .methodref 9 10), (0, .class_ 11), (0, .nameAndType 12 13), (0, u "java/lang/Math"), (0, u "max"), (0, u "(II)I"), (0, .class_ 15), (0, u "com/example/feedback/feedback/search/Bm25"), (0, .double 4616189618054758400), (1, .double 4620693217682128896), (1, .methodref 14 21), (0, .nameAndType 5 22), (0, u "(DD)V"), (0, .methodref 14 24), (0, .nameAndType 25 26), (0, u "tfWeight"), (0, u "(IID)D"), (0, .long 8), (1, .long 32), (1, .class_ 32), (0, u "com/example/feedback/feedback/search/Bm25TfWeightPinLaw"), (2, u "law"), (0, u "(IIIII)Z")] 3

def k1m0 : Method := { name := "<init>", desc := "()V", sig := { parameters := [], returnType := none }, accessFlags := 2, code := none }
def k1c1 : Code := { maxStack := 8, maxLocals := 23, code := code, exceptionTable := #[], attributes := #[] }
def k1m1 : Method := { name := "law", desc := "(IIIII)Z", sig := { parameters := [.int, .int, .int, .int, .int], returnType := some .boolean }, accessFlags := 9, code := some k1c1 }
/-- com/example/feedback/feedback/search/Bm25TfWeightPinLaw -/
def k1 : Class := { plain "com/example/feedback/feedback/search/Bm25TfWeightPinLaw" (some 0) with
  accessFlags := 49
  interfaces := #[]
  cf := some (fileOf pool1 31 #[] #[{ accessFlags := 2, nameIndex := 5, descriptorIndex := 6, attributes := #[] }, { accessFlags := 9, nameIndex := 35, descriptorIndex := 36, attributes := #[] }] 49 2 #[] #[])
  fields := #[]
  methods := #[k1m0, k1m1]
  instanceTypes := #[]
  staticTypes := #[]
  resolved := Array.replicate 40 none
  statics := none }

def pool2 : Array CpInfo := pool [(1, .class_ 2), (0, u "java/lang/Math"), (1, .class_ 6), (1, u "java/lang/Object"), (0, u "<init>"), (0, u "()V"), (89, .class_ 100), (1, u "java/lang/Math$RandomNumberGeneratorHolder"), (71, u "negativeZeroFloatBits"), (0, u "J"), (2, u "negativeZeroDoubleBits"), (21, u "max"), (46, u "$assertionsDisabled"), (0, u "Z"), (88, u "(II)I"), (2, u "twoToTheDoubleScaleDown"), (0, u "D"), (4, u "twoToTheDoubleScaleUp"), (9, u "E"), (3, u "PI"), (2, u "TAU"), (2, u "DEGREES_TO_RADIANS"), (0, u "RADIANS_TO_DEGREES")] 94

def k2m0 : Method := { name := "<init>", desc := "()V", sig := { parameters := [], returnType := none }, accessFlags := 2, code := none }
def k2c1 : Code := { maxStack := 2, maxLocals := 2, code := jdk_29_method_65_code, exceptionTable := #[], attributes := #[] }
def k2m1 : Method := { name := "max", desc := "(II)I", sig := { parameters := [.int, .int], returnType := some .int }, accessFlags := 9, code := some k2c1 }
/-- java/lang/Math -/
def k2 : Class := { plain "java/lang/Math" (some 0) with
  accessFlags := 49
  interfaces := #[]
  cf := some (fileOf pool2 1 #[.nestMembers #[98]] #[{ accessFlags := 2, nameIndex := 7, descriptorIndex := 8, attributes := #[] }, { accessFlags := 9, nameIndex := 198, descriptorIndex := 335, attributes := #[] }] 49 4 #[] #[{ accessFlags := 25, nameIndex := 354, descriptorIndex := 339, attributes := #[] }, { accessFlags := 25, nameIndex := 358, descriptorIndex := 339, attributes := #[] }, { accessFlags := 25, nameIndex := 361, descriptorIndex := 339, attributes := #[] }, { accessFlags := 26, nameIndex := 364, descriptorIndex := 339, attributes := #[] }, { accessFlags := 26, nameIndex := 365, descriptorIndex := 339, attributes := #[] }, { accessFlags := 26, nameIndex := 172, descriptorIndex := 173, attributes := #[] }, { accessFlags := 26, nameIndex := 176, descriptorIndex := 173, attributes := #[] }, { accessFlags := 8, nameIndex := 344, descriptorIndex := 339, attributes := #[] }, { accessFlags := 8, nameIndex := 338, descriptorIndex := 339, attributes := #[] }, { accessFlags := 4120, nameIndex := 245, descriptorIndex := 246, attributes := #[] }])
  fields := #[{ name := "E", type := .double, accessFlags := 25, slot := 0, constantValue := 0 }, { name := "PI", type := .double, accessFlags := 25, slot := 1, constantValue := 0 }, { name := "TAU", type := .double, accessFlags := 25, slot := 2, constantValue := 0 }, { name := "DEGREES_TO_RADIANS", type := .double, accessFlags := 26, slot := 3, constantValue := 0 }, { name := "RADIANS_TO_DEGREES", type := .double, accessFlags := 26, slot := 4, constantValue := 0 }, { name := "negativeZeroFloatBits", type := .long, accessFlags := 26, slot := 5, constantValue := 0 }, { name := "negativeZeroDoubleBits", type := .long, accessFlags := 26, slot := 6, constantValue := 0 }, { name := "twoToTheDoubleScaleUp", type := .double, accessFlags := 8, slot := 7, constantValue := 0 }, { name := "twoToTheDoubleScaleDown", type := .double, accessFlags := 8, slot := 8, constantValue := 0 }, { name := "$assertionsDisabled", type := .boolean, accessFlags := 4120, slot := 9, constantValue := 0 }]
  methods := #[k2m0, k2m1]
  instanceTypes := #[]
  staticTypes := #[.double, .double, .double, .double, .double, .long, .long, .double, .double, .boolean]
  resolved := Array.replicate 460 none
  statics := none }

def pool3 : Array CpInfo := pool [(1, .methodref 2 3), (0, .class_ 4), (0, .nameAndType 5 6), (0, u "java/lang/Object"), (0, u "<init>"), (0, u "()V"), (0, .string 8), (0, u "k1"), (0, .methodref 10 11), (0, .class_ 12), (0, .nameAndType 13 14), (0, u "com/example/feedback/feedback/search/Parameters"), (0, u "atLeastZero"), (0, u "(Ljava/lang/String;D)D"), (9, .fieldref 25 26), (0, .class_ 27), (0, .nameAndType 8 28), (0, u "com/example/feedback/feedback/search/Bm25"), (0, u "D"), (0, .fieldref 25 30), (0, .nameAndType 31 28), (0, u "b"), (8, u "DEFAULT_K1"), (3, u "DEFAULT_B"), (2, u "(DD)V"), (5, u "tfWeight"), (0, u "(IID)D")] 17

def k3c0 : Code := { maxStack := 4, maxLocals := 5, code := prog_36_method_1_code, exceptionTable := #[], attributes := #[] }
def k3m0 : Method := { name := "<init>", desc := "(DD)V", sig := { parameters := [.double, .double], returnType := none }, accessFlags := 1, code := some k3c0 }
def k3c1 : Code := { maxStack := 12, maxLocals := 5, code := prog_36_method_3_code, exceptionTable := #[], attributes := #[] }
def k3m1 : Method := { name := "tfWeight", desc := "(IID)D", sig := { parameters := [.int, .int, .double], returnType := some .double }, accessFlags := 1, code := some k3c1 }
/-- com/example/feedback/feedback/search/Bm25 -/
def k3 : Class := { plain "com/example/feedback/feedback/search/Bm25" (some 0) with
  accessFlags := 33
  interfaces := #[]
  cf := some (fileOf pool3 25 #[] #[{ accessFlags := 1, nameIndex := 5, descriptorIndex := 47, attributes := #[] }, { accessFlags := 1, nameIndex := 53, descriptorIndex := 54, attributes := #[] }] 33 2 #[] #[{ accessFlags := 25, nameIndex := 40, descriptorIndex := 28, attributes := #[] }, { accessFlags := 25, nameIndex := 44, descriptorIndex := 28, attributes := #[] }, { accessFlags := 18, nameIndex := 8, descriptorIndex := 28, attributes := #[] }, { accessFlags := 18, nameIndex := 31, descriptorIndex := 28, attributes := #[] }])
  fields := #[{ name := "DEFAULT_K1", type := .double, accessFlags := 25, slot := 0, constantValue := 0 }, { name := "DEFAULT_B", type := .double, accessFlags := 25, slot := 1, constantValue := 0 }, { name := "k1", type := .double, accessFlags := 18, slot := 0, constantValue := 0 }, { name := "b", type := .double, accessFlags := 18, slot := 1, constantValue := 0 }]
  methods := #[k3m0, k3m1]
  instanceTypes := #[.double, .double]
  staticTypes := #[.double, .double]
  resolved := Array.replicate 72 none
  statics := none }

def pool4 : Array CpInfo := pool [(1, .class_ 2), (0, u "java/io/Serializable"), (0, .class_ 4), (0, u "java/lang/Object")] 2

/-- java/io/Serializable -/
def k4 : Class := { plain "java/io/Serializable" (some 0) with
  accessFlags := 1537
  interfaces := #[]
  cf := some (fileOf pool4 1 #[] #[] 1537 3 #[] #[])
  fields := #[]
  methods := #[]
  instanceTypes := #[]
  staticTypes := #[]
  resolved := Array.replicate 7 none
  statics := none }

def pool5 : Array CpInfo := pool [(1, .class_ 2), (0, u "java/lang/Comparable"), (0, .class_ 4), (0, u "java/lang/Object")] 7

/-- java/lang/Comparable -/
def k5 : Class := { plain "java/lang/Comparable" (some 0) with
  accessFlags := 1537
  interfaces := #[]
  cf := some (fileOf pool5 1 #[] #[] 1537 3 #[] #[])
  fields := #[]
  methods := #[]
  instanceTypes := #[]
  staticTypes := #[]
  resolved := Array.replicate 12 none
  statics := none }

def pool6 : Array CpInfo := pool [(2, .class_ 4), (1, u "java/lang/CharSequence"), (42, .class_ 48), (0, u "java/lang/CharSequence$1CodePointIterator"), (10, .class_ 60), (0, u "java/lang/CharSequence$1CharIterator"), (5, .class_ 67), (0, u "java/lang/Object")] 63

/-- java/lang/CharSequence -/
def k6 : Class := { plain "java/lang/CharSequence" (some 0) with
  accessFlags := 1537
  interfaces := #[]
  cf := some (fileOf pool6 2 #[.nestMembers #[47, 59]] #[] 1537 66 #[] #[])
  fields := #[]
  methods := #[]
  instanceTypes := #[]
  staticTypes := #[]
  resolved := Array.replicate 131 none
  statics := none }

def pool7 : Array CpInfo := pool [(1, .class_ 2), (0, u "java/lang/constant/Constable"), (0, .class_ 4), (0, u "java/lang/Object")] 6

/-- java/lang/constant/Constable -/
def k7 : Class := { plain "java/lang/constant/Constable" (some 0) with
  accessFlags := 1537
  interfaces := #[]
  cf := some (fileOf pool7 1 #[] #[] 1537 3 #[] #[])
  fields := #[]
  methods := #[]
  instanceTypes := #[]
  staticTypes := #[]
  resolved := Array.replicate 11 none
  statics := none }

def pool8 : Array CpInfo := pool [(1, .class_ 2), (0, u "java/lang/constant/ConstantDesc"), (0, .class_ 4), (0, u "java/lang/Object")] 32

/-- java/lang/constant/ConstantDesc -/
def k8 : Class := { plain "java/lang/constant/ConstantDesc" (some 0) with
  accessFlags := 1537
  interfaces := #[]
  cf := some (fileOf pool8 1 #[] #[] 1537 3 #[] #[])
  fields := #[]
  methods := #[]
  instanceTypes := #[]
  staticTypes := #[]
  resolved := Array.replicate 37 none
  statics := none }

def pool9 : Array CpInfo := pool [(2, .class_ 4), (1, u "java/lang/Object"), (0, u "<init>"), (0, u "()V"), (3, .class_ 12), (1, u "java/lang/String"), (0, u "value"), (0, u "[B"), (2, u "coder"), (0, u "B"), (2, u "hash"), (0, u "I"), (2, u "hashIsZero"), (0, u "Z"), (13, u "COMPACT_STRINGS"), (534, .class_ 576), (0, u "java/lang/CharSequence"), (22, u "CASE_INSENSITIVE_ORDER"), (0, u "Ljava/util/Comparator;"), (500, u "serialPersistentFields"), (0, u "[Ljava/io/ObjectStreamField;"), (0, .class_ 1104), (0, u "java/lang/String$CaseInsensitiveComparator"), (1, .class_ 1107), (0, u "java/io/Serializable"), (0, .class_ 1109), (0, u "java/lang/Comparable"), (0, .class_ 1111), (0, u "java/lang/constant/Constable"), (0, .class_ 1113), (0, u "java/lang/constant/ConstantDesc"), (2, u "serialVersionUID"), (0, u "J"), (3, u "REPL"), (0, u "C"), (2, u "LATIN1"), (1, u "UTF16")] 323

def k9m0 : Method := { name := "<init>", desc := "()V", sig := { parameters := [], returnType := none }, accessFlags := 1, code := none }
/-- java/lang/String -/
def k9 : Class := { plain "java/lang/String" (some 0) with
  accessFlags := 49
  interfaces := #[4, 5, 6, 7, 8]
  cf := some (fileOf pool9 10 #[.nestMembers #[1103]] #[{ accessFlags := 1, nameIndex := 5, descriptorIndex := 6, attributes := #[] }] 49 2 #[1106, 1108, 575, 1110, 1112] #[{ accessFlags := 18, nameIndex := 13, descriptorIndex := 14, attributes := #[] }, { accessFlags := 18, nameIndex := 17, descriptorIndex := 18, attributes := #[] }, { accessFlags := 2, nameIndex := 21, descriptorIndex := 22, attributes := #[] }, { accessFlags := 2, nameIndex := 25, descriptorIndex := 26, attributes := #[] }, { accessFlags := 26, nameIndex := 1116, descriptorIndex := 1117, attributes := #[] }, { accessFlags := 24, nameIndex := 40, descriptorIndex := 26, attributes := #[] }, { accessFlags := 26, nameIndex := 1101, descriptorIndex := 1102, attributes := #[] }, { accessFlags := 26, nameIndex := 1121, descriptorIndex := 1122, attributes := #[] }, { accessFlags := 25, nameIndex := 599, descriptorIndex := 600, attributes := #[] }, { accessFlags := 24, nameIndex := 1125, descriptorIndex := 18, attributes := #[] }, { accessFlags := 24, nameIndex := 1127, descriptorIndex := 18, attributes := #[] }])
  fields := #[{ name := "value", type := (.array .byte), accessFlags := 18, slot := 0, constantValue := 0 }, { name := "coder", type := .byte, accessFlags := 18, slot := 1, constantValue := 0 }, { name := "hash", type := .int, accessFlags := 2, slot := 2, constantValue := 0 }, { name := "hashIsZero", type := .boolean, accessFlags := 2, slot := 3, constantValue := 0 }, { name := "serialVersionUID", type := .long, accessFlags := 26, slot := 0, constantValue := 0 }, { name := "COMPACT_STRINGS", type := .boolean, accessFlags := 24, slot := 1, constantValue := 0 }, { name := "serialPersistentFields", type := (.array (.object "java/io/ObjectStreamField")), accessFlags := 26, slot := 2, constantValue := 0 }, { name := "REPL", type := .char, accessFlags := 26, slot := 3, constantValue := 0 }, { name := "CASE_INSENSITIVE_ORDER", type := (.object "java/util/Comparator"), accessFlags := 25, slot := 4, constantValue := 0 }, { name := "LATIN1", type := .byte, accessFlags := 24, slot := 5, constantValue := 0 }, { name := "UTF16", type := .byte, accessFlags := 24, slot := 6, constantValue := 0 }]
  methods := #[k9m0]
  instanceTypes := #[(.array .byte), .byte, .int, .boolean]
  staticTypes := #[.long, .boolean, (.array (.object "java/io/ObjectStreamField")), .char, (.object "java/util/Comparator"), .byte, .byte]
  resolved := Array.replicate 1451 none
  statics := none }

def pool10 : Array CpInfo := pool [(2, .class_ 4), (1, u "java/lang/Object"), (0, u "<init>"), (0, u "()V"), (2, .double 9218868437227405312), (10, .class_ 21), (0, u "com/example/feedback/feedback/search/Parameters"), (2, u "atLeastZero"), (0, u "(Ljava/lang/String;D)D")] 18

def k10m0 : Method := { name := "<init>", desc := "()V", sig := { parameters := [], returnType := none }, accessFlags := 2, code := none }
def k10c1 : Code := { maxStack := 5, maxLocals := 3, code := prog_43_method_2_code, exceptionTable := #[], attributes := #[] }
def k10m1 : Method := { name := "atLeastZero", desc := "(Ljava/lang/String;D)D", sig := { parameters := [(.object "java/lang/String"), .double], returnType := some .double }, accessFlags := 8, code := some k10c1 }
/-- com/example/feedback/feedback/search/Parameters -/
def k10 : Class := { plain "com/example/feedback/feedback/search/Parameters" (some 0) with
  accessFlags := 32
  interfaces := #[]
  cf := some (fileOf pool10 20 #[] #[{ accessFlags := 2, nameIndex := 5, descriptorIndex := 6, attributes := #[] }, { accessFlags := 8, nameIndex := 24, descriptorIndex := 25, attributes := #[] }] 32 2 #[] #[])
  fields := #[]
  methods := #[k10m0, k10m1]
  instanceTypes := #[]
  staticTypes := #[]
  resolved := Array.replicate 44 none
  statics := none }

def pool11 : Array CpInfo := pool [(1, u "java/lang/Cloneable"), (0, .class_ 1), (0, u "java/lang/Object"), (0, .class_ 3)] 3

/-- java/lang/Cloneable -/
def k11 : Class := { plain "java/lang/Cloneable" (some 0) with
  accessFlags := 1537
  interfaces := #[]
  cf := some (fileOf pool11 2 #[] #[] 1537 4 #[] #[])
  fields := #[]
  methods := #[]
  instanceTypes := #[]
  staticTypes := #[]
  resolved := Array.replicate 8 none
  statics := none }

/-- the primitive byte -/
def k12 : Class := { plain "byte" none with kind := .primitive 'B', accessFlags := 0x411 }
/-- [B -/
def k13 : Class := { plain "[B" (some 0) with kind := .array 12 .byte, interfaces := #[11, 4], accessFlags := 1041 }

/-- the primitive int -/
def k14 : Class := { plain "int" none with kind := .primitive 'I', accessFlags := 0x411 }
/-- [I -/
def k15 : Class := { plain "[I" (some 0) with kind := .array 14 .int, interfaces := #[11, 4], accessFlags := 1041 }

def heap : Heap := #[]
def classes : Array Class := #[k0, k1, k2, k3, k4, k5, k6, k7, k8, k9, k10, k11, k12, k13, k14, k15]
def interned : List (Array UInt16 × Addr) := []
def slotsUsed : Nat := 0
def theMethod : MethodId := ⟨1, 1⟩
def args0 : Array Value := #[.int 3, .int 4, .int 2, .int 7, .int 11]
def aboutOver (below : List Frame) : State where
  vm := { classes := classes, interned := interned.toArray }
  heap := heap
  slotsUsed := slotsUsed
  threads := #[{ frames := .invoking theMethod args0 :: below }]
def below0 : List Frame := [.native { method := ⟨0, 0⟩, args := #[] }]
def about1 : State := aboutOver below0
def p0 : Program := .bare "" "" ""
def e0 : Env := launch0.env 0 0 0
theorem w_frames : about1.frames = Frame.invoking theMethod args0 :: below0 := rfl
set_option maxRecDepth 65536 in
theorem w_args : argsFit about1.vm theMethod args0 = true := by decide +kernel
set_option maxRecDepth 65536 in
theorem w_heap : heapFits about1 = true := by decide +kernel
set_option maxRecDepth 65536 in
theorem w_runnable : about1.curStatus? = some .runnable := by decide +kernel
set_option maxRecDepth 65536 in
theorem w_alone : about1.alone = true := by decide +kernel
set_option maxRecDepth 65536 in
theorem w_named : about1.methodNamed? x = some theMethod := by decide +kernel
set_option maxRecDepth 65536 in
theorem w_hears : about1.hears theMethod below0 = true := by decide +kernel
set_option maxRecDepth 65536 in
theorem w_ripe : about1.ripe theMethod args0 below0 = true := by decide +kernel
theorem w_running : about1.status = .running := rfl
set_option maxRecDepth 65536 in
theorem w_room : about1.hasRoom e0.platform room_1 = true :=
  launch0.hasRoom_least _ room_1 (by decide +kernel) (by decide +kernel) (by decide +kernel) (by decide +kernel) (by decide +kernel) (by decide +kernel)
theorem allAtoms_all (ts : List Jvm.Cond) (a : Array Jvm.Value) (st : Jvm.State) : (allAtoms ts).before a st = ts.all (fun c => c.before a st) := by
  induction ts with
  | nil => rfl
  | cons c t ih =>
    show (Jvm.Cond.and c (allAtoms t)).before a st = _
    rw [Jvm.Cond.before_and, ih, List.all_cons]
def words1 : List Jvm.Cond := Jvm.Cond.code x code maxLocals ret :: tables_1
/-- a 'code' word, met by the world's own term for the bytes: nothing is compared byte by byte -/
theorem code_word {y : MethodName} {bytes : ByteArray} {mx : Nat} {rt : Option FieldType} {a : Array Value} {s : State} {m : MethodId} {meth : Method} {c : Code} (h1 : s.methodNamed? y = some m) (h2 : s.vm.method? m = some meth) (h3 : meth.code = some c) (h4 : c.code = bytes)
    (h5 : (c.maxLocals == mx && c.exceptionTable.isEmpty && decide (c.maxStack ≤ mostOperands) && decide (meth.sig.returnType = rt) && !meth.locks && decide (parseMethodDescriptor y.desc = some meth.sig)) = true) : (Jvm.Cond.code y bytes mx rt).before a s = true := by
  simp only [Bool.and_eq_true, beq_iff_eq, Bool.not_eq_true', decide_eq_true_eq] at h5
  obtain ⟨⟨⟨⟨⟨g1, g2⟩, g3⟩, g4⟩, g5⟩, g6⟩ := h5
  simp [Cond.before, Cond.holds, Cond.value, h1, h2, h3, h4, g1, g2, g3, g4, g5, g6]
def isCode : Jvm.Cond → Bool
  | .code _ _ _ _ => true
  | _ => false
theorem all_split {L : List Jvm.Cond} {P : Jvm.Cond → Bool} (h1 : L.all (fun c => isCode c || P c) = true) (h2 : ∀ c ∈ L.filter isCode, P c = true) : L.all P = true := by
  refine List.all_eq_true.mpr fun c hc => ?_
  have h := List.all_eq_true.mp h1 c hc
  rcases Bool.eq_false_or_eq_true (isCode c) with hi | hi
  · exact h2 c (List.mem_filter.mpr ⟨hc, hi⟩)
  · simpa [hi] using h
set_option maxRecDepth 65536 in
theorem w_c0 : (Jvm.Cond.code x code maxLocals ret).before args0 about1 = true := code_word (m := ⟨1, 1⟩) (meth := k1m1) (c := k1c1) (by decide +kernel) rfl rfl rfl (by decide +kernel)
set_option maxRecDepth 65536 in
theorem w_c1 : (Jvm.Cond.code ({ cls := "java/lang/Math", name := "max", desc := "(II)I" } : Jvm.MethodName) jdk_29_method_65_code (2 : Nat) (Option.some Jvm.ClassFile.FieldType.int)).before args0 about1 = true := code_word (m := ⟨2, 1⟩) (meth := k2m1) (c := k2c1) (by decide +kernel) rfl rfl rfl (by decide +kernel)
set_option maxRecDepth 65536 in
theorem w_c2 : (Jvm.Cond.code ({ cls := "com/example/feedback/feedback/search/Bm25", name := "<init>", desc := "(DD)V" } : Jvm.MethodName) prog_36_method_1_code (5 : Nat) (Option.none : Option Jvm.ClassFile.FieldType)).before args0 about1 = true := code_word (m := ⟨3, 0⟩) (meth := k3m0) (c := k3c0) (by decide +kernel) rfl rfl rfl (by decide +kernel)
set_option maxRecDepth 65536 in
theorem w_c3 : (Jvm.Cond.code ({ cls := "java/lang/Object", name := "<init>", desc := "()V" } : Jvm.MethodName) object_method_1_code (1 : Nat) (Option.none : Option Jvm.ClassFile.FieldType)).before args0 about1 = true := code_word (m := ⟨0, 0⟩) (meth := k0m0) (c := k0c0) (by decide +kernel) rfl rfl rfl (by decide +kernel)
set_option maxRecDepth 65536 in
theorem w_c4 : (Jvm.Cond.code ({ cls := "com/example/feedback/feedback/search/Parameters", name := "atLeastZero", desc := "(Ljava/lang/String;D)D" } : Jvm.MethodName) prog_43_method_2_code (3 : Nat) (Option.some Jvm.ClassFile.FieldType.double)).before args0 about1 = true := code_word (m := ⟨10, 1⟩) (meth := k10m1) (c := k10c1) (by decide +kernel) rfl rfl rfl (by decide +kernel)
set_option maxRecDepth 65536 in
theorem w_c5 : (Jvm.Cond.code ({ cls := "com/example/feedback/feedback/search/Bm25", name := "tfWeight", desc := "(IID)D" } : Jvm.MethodName) prog_36_method_3_code (5 : Nat) (Option.some Jvm.ClassFile.FieldType.double)).before args0 about1 = true := code_word (m := ⟨3, 1⟩) (meth := k3m1) (c := k3c1) (by decide +kernel) rfl rfl rfl (by decide +kernel)
def codes1 : List Jvm.Cond := [Jvm.Cond.code x code maxLocals ret, Jvm.Cond.code ({ cls := "java/lang/Math", name := "max", desc := "(II)I" } : Jvm.MethodName) jdk_29_method_65_code (2 : Nat) (Option.some Jvm.ClassFile.FieldType.int), Jvm.Cond.code ({ cls := "com/example/feedback/feedback/search/Bm25", name := "<init>", desc := "(DD)V" } : Jvm.MethodName) prog_36_method_1_code (5 : Nat) (Option.none : Option Jvm.ClassFile.FieldType), Jvm.Cond.code ({ cls := "java/lang/Object", name := "<init>", desc := "()V" } : Jvm.MethodName) object_method_1_code (1 : Nat) (Option.none : Option Jvm.ClassFile.FieldType), Jvm.Cond.code ({ cls := "com/example/feedback/feedback/search/Parameters", name := "atLeastZero", desc := "(Ljava/lang/String;D)D" } : Jvm.MethodName) prog_43_method_2_code (3 : Nat) (Option.some Jvm.ClassFile.FieldType.double), Jvm.Cond.code ({ cls := "com/example/feedback/feedback/search/Bm25", name := "tfWeight", desc := "(IID)D" } : Jvm.MethodName) prog_36_method_3_code (5 : Nat) (Option.some Jvm.ClassFile.FieldType.double)]
set_option maxRecDepth 65536 in
theorem codes_eq : words1.filter isCode = codes1 := rfl
theorem w_codes : ∀ c ∈ words1.filter isCode, c.before args0 about1 = true := by
  rw [codes_eq]
  intro c hc
  simp only [codes1, List.mem_cons, List.not_mem_nil, or_false] at hc
  rcases hc with rfl | rfl | rfl | rfl | rfl | rfl
  · exact w_c0
  · exact w_c1
  · exact w_c2
  · exact w_c3
  · exact w_c4
  · exact w_c5
set_option maxRecDepth 65536 in
theorem w_t1 : (words1.take 24).all (fun c => isCode c || c.before args0 about1) = true := by decide +kernel
set_option maxRecDepth 65536 in
theorem w_t2 : (words1.drop 24).all (fun c => isCode c || c.before args0 about1) = true := by decide +kernel
theorem w_tables : (allAtoms (Jvm.Cond.code x code maxLocals ret :: tables_1)).before args0 about1 = true := by
  rw [allAtoms_all]
  show words1.all (fun c => c.before args0 about1) = true
  refine all_split ?_ w_codes
  rw [← List.take_append_drop 24 words1, List.all_append, w_t1, w_t2]
  rfl
set_option maxRecDepth 65536 in
theorem w_case : (Jvm.Cond.and given_1 narrow_1).before args0 about1 = true := by decide +kernel
theorem w_applies : (headSpec (Jvm.Cond.code x code maxLocals ret :: tables_1) room_1).applies x e0.platform about1 = true :=
  (Spec.applies_iff w_frames).mpr ⟨w_running, w_runnable, w_alone, w_named, w_hears, w_ripe, w_room, w_tables⟩
theorem atStart : AtStart classFile x code maxLocals ret World_1 tables_1 room_1 Calls_1 rest_1 Pre_1 launch0 p0 e0 about1 theMethod args0 below0 :=
  ⟨lists_1, trivial, launch0.admits_env _ _ _, launch0.least_env, fairChoices_fair.cas, fairChoices_fair.clock, w_frames, w_args, w_heap, w_applies, trivial, trivial, w_case⟩
end start1
theorem witness_1 : WitnessClaimed_1 := ⟨start1.p0, start1.e0, start1.about1, start1.theMethod, start1.args0, start1.below0, start1.atStart⟩
end Jvm.Pilot.@@N@@
