import JvmDerived
import JvmDerived.Pilot.@@N@@Statement
import JvmDerived.Pilot.@@N@@Code
set_option linter.unusedVariables false
set_option linter.unusedSimpArgs false
namespace Jvm.RoadKit
open Sem ClassFile Op Lib Jvm.Stand Jvm.Free Jvm.LawKit
section New
variable {p : Program} {l : Launch} {e : Env} {R : Room} {s : State} {m : MethodId} {args : Array Value} {below : List Frame} {meth : Method} {c : Code} {T : State} {locs : List Loc} {cells slots : Nat}
theorem retI (X : Stand p l e R s m args below meth c T locs cells slots) (hx : p.tables.exec = Jvm.exec) {pc : Nat} {Ls : Array Slot} {z : Int32} {rest : List Value} (hret : meth.sig.returnType = some .int) (hd : decode c.code pc = .ok (.ireturn, 1)) {fs : List Frame}
    (hl : ∀ (f : JFrame) (acts : List Action), f.method = m → f.locked = none → f.entered = [] → (doReturn e (T.setTop f) acts (some (.int z))).1 = T.setFrames fs) : Steps p.tables e below (T.setTop (mkF m pc Ls (.int z :: rest))) (T.setFrames fs) := by
  have hm' : T.vm.method? m = some meth := X.method'
  have hn : narrow .int (.int z) = .int z := rfl
  show Steps p.tables e below (T.setTop { method := m, pc := pc, locals := Ls, stack := _ :: rest, locked := none }) _
  jvm_step X.here [X.here.top, hx, hd, hm', hret, hn]
  first | (intro acts; rw [hl _ acts rfl rfl rfl]) | rw [hl _ _ rfl rfl rfl]
  exact Steps.refl _
end New
end Jvm.RoadKit
namespace Jvm.Pilot.@@N@@
open Jvm Jvm.ClassFile Sem Op Lib Jvm.Free Jvm.Stand Jvm.LawKit Jvm.RoadKit Bundle Jvm.Pilot.@@N@@.Jvm.D
section Own
variable {p : Program} {l : Launch} {e : Env} {R : Room} {s : State} {m : MethodId} {args : Array Value} {below : List Frame} {meth : Method} {c : Code} {T T' : State} {locs : List Loc} {cells slots cc nn : Nat} {f f' : JFrame} {Q : Option Value → Heap → List Loc → Prop} {Z : State} {h h' : Heap} {ws : List Addr}
/-- from this state the body comes to its end, and what it leaves is as Q says -/
def own_Ends (p : Program) (e : Env) (below : List Frame) (s : State) (Q : Option Value → Heap → List Loc → Prop) (cc nn : Nat) (T : State) (f : JFrame) : Prop :=
  ∃ s₂ o, Steps p.tables e below (T.setTop f) s₂ ∧ s₂.status = .running ∧ Ended s₂ below o ∧ ∃ v L, o = .returned v ∧ Q v s₂.heap L ∧ FrameEnd s o s₂ L cc nn
theorem own_go (k : ∀ t, Steps p.tables e below (T'.setTop f') t → Steps p.tables e below (T.setTop f) t) (h : own_Ends p e below s Q cc nn T' f') : own_Ends p e below s Q cc nn T f := by
  obtain ⟨s₂, o, h1, h2⟩ := h
  exact ⟨s₂, o, k _ h1, h2⟩
theorem own_ret (X : Stand p l e R s m args below meth c T locs cells slots) {v : Option Value} (hv : meth.sig.returnType = none → v = none) (hlk : meth.locks = false)
    (st : ∀ fs, (∀ (f : JFrame) (acts : List Action), f.method = m → f.locked = none → f.entered = [] → (doReturn e (T.setTop f) acts v).1 = T.setFrames fs) → Steps p.tables e below (T.setTop f) (T.setFrames fs)) (hQ : Q v T.heap locs) (h1 : cells ≤ cc) (h2 : slots ≤ nn) :
    own_Ends p e below s Q cc nn T f := by
  obtain ⟨fs, hr, hrun, hended, hW, hsame⟩ := X.leave (v := v) hv hlk
  exact ⟨_, _, st fs hr, hrun, hended, _, _, rfl, hQ, ⟨_, rfl⟩, hW, hsame.mono h1 h2⟩
theorem own_retL (X : Stand p l e R s m args below meth c T locs cells slots) (hx : p.tables.exec = Jvm.exec) {pc : Nat} {Ls : Array Slot} {z : Int64} {rest : List Value} (hret : meth.sig.returnType = some .long) (hd : decode c.code pc = .ok (.lreturn, 1)) {fs : List Frame}
    (hl : ∀ (f : JFrame) (acts : List Action), f.method = m → f.locked = none → f.entered = [] → (doReturn e (T.setTop f) acts (some (.long z))).1 = T.setFrames fs) : Steps p.tables e below (T.setTop (mkF m pc Ls (.long z :: rest))) (T.setFrames fs) :=
  retOut X hx hret rfl (Or.inr (Or.inl ⟨rfl, rfl, _, rfl⟩)) hd hl
theorem own_retD (X : Stand p l e R s m args below meth c T locs cells slots) (hx : p.tables.exec = Jvm.exec) {pc : Nat} {Ls : Array Slot} {z : UInt64} {rest : List Value} (hret : meth.sig.returnType = some .double) (hd : decode c.code pc = .ok (.dreturn, 1)) {fs : List Frame}
    (hl : ∀ (f : JFrame) (acts : List Action), f.method = m → f.locked = none → f.entered = [] → (doReturn e (T.setTop f) acts (some (.double z))).1 = T.setFrames fs) : Steps p.tables e below (T.setTop (mkF m pc Ls (.double z :: rest))) (T.setFrames fs) :=
  retOut X hx hret rfl (Or.inr (Or.inr (Or.inl ⟨rfl, rfl, _, rfl⟩))) hd hl
theorem own_retA (X : Stand p l e R s m args below meth c T locs cells slots) (hx : p.tables.exec = Jvm.exec) {pc : Nat} {Ls : Array Slot} {w : Value} {t : FieldType} {rest : List Value} (hret : meth.sig.returnType = some t) (ht : t.isReference = true) (hw : w.isRef = true) (hd : decode c.code pc = .ok (.areturn, 1)) {fs : List Frame}
    (hl : ∀ (f : JFrame) (acts : List Action), f.method = m → f.locked = none → f.entered = [] → (doReturn e (T.setTop f) acts (some w)).1 = T.setFrames fs) : Steps p.tables e below (T.setTop (mkF m pc Ls (w :: rest))) (T.setFrames fs) :=
  retOut X hx hret (by cases t <;> first | rfl | (cases ht; done)) (Or.inr (Or.inr (Or.inr (Or.inr ⟨rfl, ht, hw⟩)))) hd hl
theorem own_lc_lt {a b : Int64} : lcmpW a b < 0 ↔ a < b := by
  simp only [lcmpW, gt_iff_lt]
  by_cases h1 : b < a
  · rw [if_pos h1]; exact ⟨fun q => absurd q (by decide), fun q => absurd q (by rw [Int64.lt_iff_toInt_lt] at *; omega)⟩
  · rw [if_neg h1]
    by_cases h2 : a = b
    · rw [if_pos h2]; exact ⟨fun q => absurd q (by decide), fun q => absurd q (by rw [h2, Int64.lt_iff_toInt_lt]; omega)⟩
    · rw [if_neg h2]; exact ⟨fun _ => by rw [Int64.lt_iff_toInt_lt] at *; rw [← Int64.toInt_inj] at h2; omega, fun _ => by decide⟩
theorem own_lc_eq {a b : Int64} : lcmpW a b = 0 ↔ a = b := by
  simp only [lcmpW, gt_iff_lt]
  by_cases h1 : b < a
  · rw [if_pos h1]; exact ⟨fun q => absurd q (by decide), fun q => absurd h1 (by rw [q, Int64.lt_iff_toInt_lt]; omega)⟩
  · rw [if_neg h1]
    by_cases h2 : a = b
    · rw [if_pos h2]; exact ⟨fun _ => h2, fun _ => rfl⟩
    · rw [if_neg h2]; exact ⟨fun q => absurd q (by decide), fun q => absurd q h2⟩
theorem own_lc_gt {a b : Int64} : 0 < lcmpW a b ↔ b < a := by
  simp only [lcmpW, gt_iff_lt]
  by_cases h1 : b < a
  · rw [if_pos h1]; exact ⟨fun _ => h1, fun _ => by decide⟩
  · rw [if_neg h1]
    by_cases h2 : a = b
    · rw [if_pos h2]; exact ⟨fun q => absurd q (by decide), fun q => absurd q h1⟩
    · rw [if_neg h2]; exact ⟨fun q => absurd q (by decide), fun q => absurd q h1⟩
section Arr
variable {target : State} {g : JFrame} {a : Addr} {kc : ClassId} {ty : FieldType} {z : Int32} {vs : List Value} {dv : Value}
theorem own_alen (X : Stand p l e R s m args below meth c T locs cells slots) (hx : p.tables.exec = Jvm.exec) (hZ : Z.Warmed39 s.vm) (eT : T.heap = h) (V : Arv Z h a kc ty z vs dv) (hg : g.method = m) {rest : List Value} (hs : g.stack = .ref a :: rest) (hd : decode c.code g.pc = .ok (.arraylength, 1))
    (hr : Steps p.tables e below (T.setTop { g with pc := g.pc + 1, stack := .int z :: rest }) target) : Steps p.tables e below (T.setTop g) target := by
  obtain ⟨cl, Ar, -, Sz, Ng, -, -⟩ := V
  exact X.arraylength hx (by rw [eT]; exact Ar.1) (State.isArrayOf_alike hZ.alike Ar.2.1) hg hs hd _ (by rw [len_of Sz Ng]; exact hr)
theorem own_ldI (X : Stand p l e R s m args below meth c T locs cells slots) (hx : p.tables.exec = Jvm.exec) (hZ : Z.Warmed39 s.vm) (eT : T.heap = h) (V : Arv Z h a kc .int z vs dv) {j : Int32} {x : Int32} (hin : ¬ j < 0 ∧ j < z) (hv : vs.getD j.toNatClampNeg dv = .int x) (hg : g.method = m) {rest : List Value} (hs : g.stack = .int j :: .ref a :: rest) (hd : decode c.code g.pc = .ok (.iaload, 1))
    (hr : Steps p.tables e below (T.setTop { g with pc := g.pc + 1, stack := .int x :: rest }) target) : Steps p.tables e below (T.setTop g) target := by
  obtain ⟨cl, Ar, -, Sz, Ng, Hs, Ft⟩ := V
  have hq := inb_of (j := j) Sz hin
  exact X.iaload hx (j := j) (v := .int x) (by rw [eT]; exact Ar.1) (State.isArrayOf_alike hZ.alike Ar.2.1) Ar.2.2 hq (Hs.at hq hv) hg hs hd _ hr
theorem own_ldB (X : Stand p l e R s m args below meth c T locs cells slots) (hx : p.tables.exec = Jvm.exec) (hZ : Z.Warmed39 s.vm) (eT : T.heap = h) (V : Arv Z h a kc .byte z vs dv) {j : Int32} {x : Int32} (hin : ¬ j < 0 ∧ j < z) (hv : vs.getD j.toNatClampNeg dv = .int x) (hg : g.method = m) {rest : List Value} (hs : g.stack = .int j :: .ref a :: rest) (hd : decode c.code g.pc = .ok (.baload, 1))
    (hr : Steps p.tables e below (T.setTop { g with pc := g.pc + 1, stack := .int x :: rest }) target) : Steps p.tables e below (T.setTop g) target := by
  obtain ⟨cl, Ar, -, Sz, Ng, Hs, Ft⟩ := V
  have hq := inb_of (j := j) Sz hin
  exact X.baloadBytes hx (j := j) (v := .int x) (by rw [eT]; exact Ar.1) (State.isArrayOf_alike hZ.alike Ar.2.1) Ar.2.2 hq (Hs.at hq hv) hg hs hd _ hr
theorem own_ldC (X : Stand p l e R s m args below meth c T locs cells slots) (hx : p.tables.exec = Jvm.exec) (hZ : Z.Warmed39 s.vm) (eT : T.heap = h) (V : Arv Z h a kc .char z vs dv) {j : Int32} {x : Int32} (hin : ¬ j < 0 ∧ j < z) (hv : vs.getD j.toNatClampNeg dv = .int x) (hg : g.method = m) {rest : List Value} (hs : g.stack = .int j :: .ref a :: rest) (hd : decode c.code g.pc = .ok (.caload, 1))
    (hr : Steps p.tables e below (T.setTop { g with pc := g.pc + 1, stack := .int x :: rest }) target) : Steps p.tables e below (T.setTop g) target := by
  obtain ⟨cl, Ar, -, Sz, Ng, Hs, Ft⟩ := V
  have hq := inb_of (j := j) Sz hin
  exact X.caload hx (j := j) (v := .int x) (by rw [eT]; exact Ar.1) (State.isArrayOf_alike hZ.alike Ar.2.1) Ar.2.2 hq (Hs.at hq hv) hg hs hd _ hr
theorem own_ldJ (X : Stand p l e R s m args below meth c T locs cells slots) (hx : p.tables.exec = Jvm.exec) (hZ : Z.Warmed39 s.vm) (eT : T.heap = h) (V : Arv Z h a kc .long z vs dv) {j : Int32} {x : Int64} (hin : ¬ j < 0 ∧ j < z) (hv : vs.getD j.toNatClampNeg dv = .long x) (hg : g.method = m) {rest : List Value} (hs : g.stack = .int j :: .ref a :: rest) (hd : decode c.code g.pc = .ok (.laload, 1))
    (hr : Steps p.tables e below (T.setTop { g with pc := g.pc + 1, stack := .long x :: rest }) target) : Steps p.tables e below (T.setTop g) target := by
  obtain ⟨cl, Ar, -, Sz, Ng, Hs, Ft⟩ := V
  have hq := inb_of (j := j) Sz hin
  exact X.laload hx (j := j) (v := .long x) (by rw [eT]; exact Ar.1) (State.isArrayOf_alike hZ.alike Ar.2.1) Ar.2.2 hq (Hs.at hq hv) hg hs hd _ hr
theorem own_ldR (X : Stand p l e R s m args below meth c T locs cells slots) (hx : p.tables.exec = Jvm.exec) (hZ : Z.Warmed39 s.vm) (eT : T.heap = h) (V : Arv Z h a kc ty z vs dv) {j : Int32} {x : Value} (hin : ¬ j < 0 ∧ j < z) (hv : vs.getD j.toNatClampNeg dv = x) (hty : ty.isReference = true) (hg : g.method = m) {rest : List Value} (hs : g.stack = .int j :: .ref a :: rest) (hd : decode c.code g.pc = .ok (.aaload, 1))
    (hr : Steps p.tables e below (T.setTop { g with pc := g.pc + 1, stack := x :: rest }) target) : Steps p.tables e below (T.setTop g) target := by
  obtain ⟨cl, Ar, -, Sz, Ng, Hs, Ft⟩ := V
  have hq := inb_of (j := j) Sz hin
  exact X.aaload hx (j := j) (v := x) (by rw [eT]; exact Ar.1) (State.isArrayOf_alike hZ.alike Ar.2.1) hty Ar.2.2 hq (Hs.at hq hv) hg hs hd _ hr
theorem own_stI (X : Stand p l e R s m args below meth c T locs cells slots) (hx : p.tables.exec = Jvm.exec) (hZ : Z.Warmed39 s.vm) (eT : T.heap = h) (V : Arv Z h a kc .int z vs dv) {j : Int32} {x : Int32} (hin : ¬ j < 0 ∧ j < z) (i : Nat) (hj : j.toNatClampNeg = i) (hi : i < vs.length) (hg : g.method = m) {rest : List Value} (hs : g.stack = .int x :: .int j :: .ref a :: rest) (hd : decode c.code g.pc = .ok (.iastore, 1)) :
    ∃ T' h', Stand p l e R s m args below meth c T' (locs ++ [⟨a, j.toNatClampNeg⟩]) cells slots ∧ T'.heap = h' ∧ Wr h h' a j.toNatClampNeg (.int x) ∧ Arv Z h' a kc .int z (vs.set i (.int x)) dv ∧ ∀ target, Steps p.tables e below (T'.setTop { g with pc := g.pc + 1, stack := rest }) target → Steps p.tables e below (T.setTop g) target := by
  obtain ⟨cl, Ar, q, Sz, Ng, Hs, Ft⟩ := V
  obtain ⟨T', h', X', e', W', st⟩ := stI X hx hZ eT Ar (j := j) (inb_of Sz hin) hg hs hd
  exact ⟨T', h', X', e', W', Arv.set Ar q Sz Ng Hs Ft rfl W' i hj hi, st⟩
theorem own_stB (X : Stand p l e R s m args below meth c T locs cells slots) (hx : p.tables.exec = Jvm.exec) (hZ : Z.Warmed39 s.vm) (eT : T.heap = h) (V : Arv Z h a kc .byte z vs dv) {j : Int32} {x : Int32} (hin : ¬ j < 0 ∧ j < z) (i : Nat) (hj : j.toNatClampNeg = i) (hi : i < vs.length) (hg : g.method = m) {rest : List Value} (hs : g.stack = .int x :: .int j :: .ref a :: rest) (hd : decode c.code g.pc = .ok (.bastore, 1)) :
    ∃ T' h', Stand p l e R s m args below meth c T' (locs ++ [⟨a, j.toNatClampNeg⟩]) cells slots ∧ T'.heap = h' ∧ Wr h h' a j.toNatClampNeg (.int (nar .byte x)) ∧ Arv Z h' a kc .byte z (vs.set i (.int (nar .byte x))) dv ∧ ∀ target, Steps p.tables e below (T'.setTop { g with pc := g.pc + 1, stack := rest }) target → Steps p.tables e below (T.setTop g) target := by
  obtain ⟨cl, Ar, q, Sz, Ng, Hs, Ft⟩ := V
  obtain ⟨T', h', X', e', W', st⟩ := stB X hx hZ eT Ar (j := j) (inb_of Sz hin) hg hs hd
  exact ⟨T', h', X', e', W', Arv.set Ar q Sz Ng Hs Ft (fits_nar_byte _) W' i hj hi, st⟩
theorem own_stC (X : Stand p l e R s m args below meth c T locs cells slots) (hx : p.tables.exec = Jvm.exec) (hZ : Z.Warmed39 s.vm) (eT : T.heap = h) (V : Arv Z h a kc .char z vs dv) {j : Int32} {x : Int32} (hin : ¬ j < 0 ∧ j < z) (i : Nat) (hj : j.toNatClampNeg = i) (hi : i < vs.length) (hg : g.method = m) {rest : List Value} (hs : g.stack = .int x :: .int j :: .ref a :: rest) (hd : decode c.code g.pc = .ok (.castore, 1)) :
    ∃ T' h', Stand p l e R s m args below meth c T' (locs ++ [⟨a, j.toNatClampNeg⟩]) cells slots ∧ T'.heap = h' ∧ Wr h h' a j.toNatClampNeg (.int (nar .char x)) ∧ Arv Z h' a kc .char z (vs.set i (.int (nar .char x))) dv ∧ ∀ target, Steps p.tables e below (T'.setTop { g with pc := g.pc + 1, stack := rest }) target → Steps p.tables e below (T.setTop g) target := by
  obtain ⟨cl, Ar, q, Sz, Ng, Hs, Ft⟩ := V
  obtain ⟨T', h', X', e', W', st⟩ := stC X hx hZ eT Ar (j := j) (inb_of Sz hin) hg hs hd
  exact ⟨T', h', X', e', W', Arv.set Ar q Sz Ng Hs Ft (fits_nar_char _) W' i hj hi, st⟩
theorem own_stJ (X : Stand p l e R s m args below meth c T locs cells slots) (hx : p.tables.exec = Jvm.exec) (hZ : Z.Warmed39 s.vm) (eT : T.heap = h) (V : Arv Z h a kc .long z vs dv) {j : Int32} {x : Int64} (hin : ¬ j < 0 ∧ j < z) (i : Nat) (hj : j.toNatClampNeg = i) (hi : i < vs.length) (hg : g.method = m) {rest : List Value} (hs : g.stack = .long x :: .int j :: .ref a :: rest) (hd : decode c.code g.pc = .ok (.lastore, 1)) :
    ∃ T' h', Stand p l e R s m args below meth c T' (locs ++ [⟨a, j.toNatClampNeg⟩]) cells slots ∧ T'.heap = h' ∧ Wr h h' a j.toNatClampNeg (.long x) ∧ Arv Z h' a kc .long z (vs.set i (.long x)) dv ∧ ∀ target, Steps p.tables e below (T'.setTop { g with pc := g.pc + 1, stack := rest }) target → Steps p.tables e below (T.setTop g) target := by
  obtain ⟨cl, Ar, q, Sz, Ng, Hs, Ft⟩ := V
  obtain ⟨T', h', X', e', W', st⟩ := stJ X hx hZ eT Ar (j := j) (inb_of Sz hin) hg hs hd
  exact ⟨T', h', X', e', W', Arv.set Ar q Sz Ng Hs Ft rfl W' i hj hi, st⟩
theorem own_stZ (X : Stand p l e R s m args below meth c T locs cells slots) (hx : p.tables.exec = Jvm.exec) (hZ : Z.Warmed39 s.vm) (eT : T.heap = h) (V : Arv Z h a kc .boolean z vs dv) {j : Int32} {x : Int32} (hin : ¬ j < 0 ∧ j < z) (i : Nat) (hj : j.toNatClampNeg = i) (hi : i < vs.length) (hg : g.method = m) {rest : List Value} (hs : g.stack = .int x :: .int j :: .ref a :: rest) (hd : decode c.code g.pc = .ok (.bastore, 1)) :
    ∃ T' h', Stand p l e R s m args below meth c T' (locs ++ [⟨a, j.toNatClampNeg⟩]) cells slots ∧ T'.heap = h' ∧ Wr h h' a j.toNatClampNeg (.int (nar .boolean x)) ∧ Arv Z h' a kc .boolean z (vs.set i (.int (nar .boolean x))) dv ∧ ∀ target, Steps p.tables e below (T'.setTop { g with pc := g.pc + 1, stack := rest }) target → Steps p.tables e below (T.setTop g) target := by
  obtain ⟨cl, Ar, q, Sz, Ng, Hs, Ft⟩ := V
  obtain ⟨T', h', X', e', W', st⟩ := stZ X hx hZ eT Ar (j := j) (inb_of Sz hin) hg hs hd
  exact ⟨T', h', X', e', W', Arv.set Ar q Sz Ng Hs Ft (fits_nar_bool _) W' i hj hi, st⟩
theorem own_stR (X : Stand p l e R s m args below meth c T locs cells slots) (hx : p.tables.exec = Jvm.exec) (hZ : Z.Warmed39 s.vm) (eT : T.heap = h) (V : Arv Z h a kc ty z vs dv) {j : Int32} {x : Value} (hin : ¬ j < 0 ∧ j < z) (hty : ty.isReference = true) (hf : fits ty x = true) (F : ∀ cl, Arr Z h a cl ty → cl.cls = kc → Sto Z h a x) (i : Nat) (hj : j.toNatClampNeg = i) (hi : i < vs.length) (hg : g.method = m) {rest : List Value} (hs : g.stack = x :: .int j :: .ref a :: rest) (hd : decode c.code g.pc = .ok (.aastore, 1)) :
    ∃ T' h', Stand p l e R s m args below meth c T' (locs ++ [⟨a, j.toNatClampNeg⟩]) cells slots ∧ T'.heap = h' ∧ Wr h h' a j.toNatClampNeg x ∧ Arv Z h' a kc ty z (vs.set i x) dv ∧ ∀ target, Steps p.tables e below (T'.setTop { g with pc := g.pc + 1, stack := rest }) target → Steps p.tables e below (T.setTop g) target := by
  obtain ⟨cl, Ar, q, Sz, Ng, Hs, Ft⟩ := V
  obtain ⟨T', h', X', e', W', st⟩ := stR X hx hZ eT Ar (j := j) (inb_of Sz hin) hty (F cl Ar q) hg hs hd
  exact ⟨T', h', X', e', W', Arv.set Ar q Sz Ng Hs Ft hf W' i hj hi, st⟩
end Arr
section Dbl
open Jvm.Free.XS
variable {tb : Tables} [Ours tb] {target : State} {g : JFrame}
theorem own_dloadN (h : At T m c below) (hx : tb.exec = Jvm.exec) (hg : g.method = m) {k : Fin 4} {v : UInt64} (hd : decode c.code g.pc = .ok (.dload_n k, 1)) (hl : g.locals[k.val]? = some (.val (.double v))) (hr : Steps tb e below (T.setTop { g with pc := g.pc + 1, stack := .double v :: g.stack }) target) : Steps tb e below (T.setTop g) target := by
  subst hg
  jvm_step h [h.top, hx, hd, hl]
  exact hr
theorem own_dload (h : At T m c below) (hx : tb.exec = Jvm.exec) (hg : g.method = m) {k : Nat} {v : UInt64} (hd : decode c.code g.pc = .ok (.dload k, 2)) (hl : g.locals[k]? = some (.val (.double v))) (hr : Steps tb e below (T.setTop { g with pc := g.pc + 2, stack := .double v :: g.stack }) target) : Steps tb e below (T.setTop g) target := by
  subst hg
  jvm_step h [h.top, hx, hd, hl]
  exact hr
theorem own_i2d (h : At T m c below) (hx : tb.exec = Jvm.exec) (hg : g.method = m) {x : Int32} {rest : List Value} (hd : decode c.code g.pc = .ok (.i2d, 1)) (hs : g.stack = .int x :: rest) (hr : Steps tb e below (T.setTop { g with pc := g.pc + 1, stack := .double (FP.i2d x) :: rest }) target) : Steps tb e below (T.setTop g) target := by
  subst hg
  jvm_step h [h.top, hx, hd, hs]
  exact hr
theorem own_dconst0 (h : At T m c below) (hx : tb.exec = Jvm.exec) (hg : g.method = m) (hd : decode c.code g.pc = .ok (.dconst 0, 1)) (hr : Steps tb e below (T.setTop { g with pc := g.pc + 1, stack := .double FP.dconst0 :: g.stack }) target) : Steps tb e below (T.setTop g) target := by
  subst hg
  jvm_step h [h.top, hx, hd]
  exact hr
theorem own_dconst1 (h : At T m c below) (hx : tb.exec = Jvm.exec) (hg : g.method = m) (hd : decode c.code g.pc = .ok (.dconst 1, 1)) (hr : Steps tb e below (T.setTop { g with pc := g.pc + 1, stack := .double FP.dconst1 :: g.stack }) target) : Steps tb e below (T.setTop g) target := by
  subst hg
  jvm_step h [h.top, hx, hd]
  exact hr
theorem own_pop2D (h : At T m c below) (hx : tb.exec = Jvm.exec) (hg : g.method = m) {v : UInt64} {rest : List Value} (hd : decode c.code g.pc = .ok (.pop2, 1)) (hs : g.stack = .double v :: rest) (hr : Steps tb e below (T.setTop { g with pc := g.pc + 1, stack := rest }) target) : Steps tb e below (T.setTop g) target := by
  subst hg
  jvm_step h [h.top, hx, hd, hs, Value.category]
  exact hr
theorem own_lsw (h : At T m c below) (hx : tb.exec = Jvm.exec) (hg : g.method = m) {dflt : Int} {prs : Array (Int × Int)} {len : Nat} {o : Int} {pc0 pc' : Nat} (hpc : g.pc = pc0) (hd : decode c.code g.pc = .ok (.lookupswitch dflt prs, len)) {i : Int32} {rest : List Value} (hs : g.stack = .int i :: rest) (ho : lookupswitch.offset prs.toList dflt i.toInt = o) (h0 : 0 ≤ (pc0 : Int) + o) (hp : ((pc0 : Int) + o).toNat = pc') (hk : (prs.toList.zip prs.toList.tail).all (fun q => decide (q.1.1 < q.2.1)) = true)
    (hr : Steps tb e below (T.setTop { g with pc := pc', stack := rest }) target) : Steps tb e below (T.setTop g) target := by
  subst hg hpc hp
  jvm_step h [h.top, hx, hd, hs, ho, h0, lookupswitch.wp_chain]
  exact ⟨fun a b a' b' hm => by simpa using List.all_eq_true.mp hk _ hm, hr⟩
theorem own_dcmp (h : At T m c below) (hx : tb.exec = Jvm.exec) (hg : g.method = m) {x y : UInt64} {rest : List Value} {op : CmpOp} {o : Ordering} (hd : decode c.code g.pc = .ok (.dcmp op, 1)) (hs : g.stack = .double y :: .double x :: rest) (hc : FP.dcmp x y = some o) (hr : Steps tb e below (T.setTop { g with pc := g.pc + 1, stack := .int (FP.cmpInt 0 (some o)) :: rest }) target) : Steps tb e below (T.setTop g) target := by
  subst hg
  cases o <;> (jvm_step h [h.top, hx, hd, hs, hc, cmpValue]; exact hr)
end Dbl
def own_sel {α : Type} (P : Prop) [Decidable P] (x y : α) : α := if P then x else y
def own_b2i (P : Prop) [Decidable P] : Int32 := if P then 1 else 0
theorem own_b2i_1 {P : Prop} [Decidable P] (h : P) : own_b2i P = 1 := by rw [own_b2i, if_pos h]
theorem own_b2i_congr {P R : Prop} [Decidable P] [Decidable R] (h : P ↔ R) : own_b2i P = own_b2i R := by
  by_cases q : P
  · rw [own_b2i_1 q, own_b2i_1 (h.mp q)]
  · rw [own_b2i, own_b2i, if_neg q, if_neg (fun r => q (h.mpr r))]
theorem own_b2i_t {P : Prop} [Decidable P] (h : P) : ¬ own_b2i P = 0 := by rw [own_b2i, if_pos h]; decide
theorem own_b2i_f {P : Prop} [Decidable P] (h : ¬ P) : own_b2i P = 0 := by rw [own_b2i, if_neg h]
theorem own_sta_keep {C n d : String} {v : Value} (F : Sta Z h C n d v) (K : Keep h h' ws) (q : ∀ st ∈ ws, ∀ c, h[st]? = some c → c.vm.isStatics = false) : Sta Z h' C n d v := by
  obtain ⟨cf, i, k, f, st, cell, h1, h2, h3, h4, h5, h6, h7⟩ := F
  exact ⟨cf, i, k, f, st, cell, h1, h2, h3, h4, K.2.1 st cell h5 (fun z => by rw [q st z cell h5] at h6; cases h6), h6, h7⟩
theorem own_ws0 : ∀ st ∈ ([] : List Addr), ∀ c, h[st]? = some c → c.vm.isStatics = false := fun _ q => nomatch q
theorem own_wsE {a : Addr} {C : String} (F : Exa Z h a C) (q : ∀ st ∈ ws, ∀ c, h[st]? = some c → c.vm.isStatics = false) : ∀ st ∈ a :: ws, ∀ c, h[st]? = some c → c.vm.isStatics = false := fun st hs c hc => by
  rcases List.mem_cons.mp hs with rfl | hs
  · obtain ⟨cell, k, h1, -, -, h4, -⟩ := F; cases h1.symm.trans hc; exact h4
  · exact q st hs c hc
theorem own_wsF {a : Addr} {C n d : String} {v : Value} (F : Fld Z h a C n d v) (q : ∀ st ∈ ws, ∀ c, h[st]? = some c → c.vm.isStatics = false) : ∀ st ∈ a :: ws, ∀ c, h[st]? = some c → c.vm.isStatics = false := fun st hs c hc => by
  rcases List.mem_cons.mp hs with rfl | hs
  · exact old_plain F c hc
  · exact q st hs c hc
theorem own_wsV {a : Addr} {k : ClassId} {ty : FieldType} {z : Int32} {vs : List Value} {dv : Value} (F : Arv Z h a k ty z vs dv) (q : ∀ st ∈ ws, ∀ c, h[st]? = some c → c.vm.isStatics = false) : ∀ st ∈ a :: ws, ∀ c, h[st]? = some c → c.vm.isStatics = false := fun st hs c hc => by
  rcases List.mem_cons.mp hs with rfl | hs
  · obtain ⟨cl, A, -⟩ := F; cases A.1.symm.trans hc; exact A.plain
  · exact q st hs c hc
theorem own_kx (K : Keep h h' []) : Ext h h' := ⟨K.1, fun a c q => K.2.1 a c q nin0⟩
theorem own_ins_keep {a : Addr} {C : String} {bo : Bool} (F : Ins Z h a C bo) (K : Keep h h' ws) : Ins Z h' a C bo := by
  obtain ⟨cell, cT, h1, h2, h3⟩ := F
  obtain ⟨c', q, r1, r2, r3⟩ := K.2.2 a cell h1
  exact ⟨c', cT, q, h2, by rw [r1, r2]; exact h3⟩
end Own
theorem ow19 {Z : State} {a0 : Array Value} (hw : ∀ d ∈ tables_1, d.before a0 Z = true) : (Jvm.Cond.fieldLink "java/lang/Enum" (7 : Nat) "java/lang/Enum" "ordinal" "I").before a0 Z = true := hw _ (List.mem_of_getElem? (i := 19) rfl)
abbrev mn0 : MethodName := ⟨"java/lang/Enum", "ordinal", "()I"⟩
theorem ow12 {Z : State} {a0 : Array Value} (hw : ∀ d ∈ tables_1, d.before a0 Z = true) : (Jvm.Cond.methodLink "com/example/reckonmill/reckonmill/lib/model/tree/Comparison" (61 : Nat) ({ cls := "com/example/reckonmill/reckonmill/lib/model/tree/Comparison", name := "ordinal", desc := "()I" } : Jvm.MethodName)).before a0 Z = true := hw _ (List.mem_of_getElem? (i := 12) rfl)
theorem ow18 {Z : State} {a0 : Array Value} (hw : ∀ d ∈ tables_1, d.before a0 Z = true) : (Jvm.Cond.code ({ cls := "java/lang/Enum", name := "ordinal", desc := "()I" } : Jvm.MethodName) jdk_37_method_2_code (1 : Nat) (Option.some Jvm.ClassFile.FieldType.int)).before a0 Z = true := hw _ (List.mem_of_getElem? (i := 18) rfl)
theorem ow17 {Z : State} {a0 : Array Value} (hw : ∀ d ∈ tables_1, d.before a0 Z = true) : (Jvm.Cond.initialized "java/lang/Enum").before a0 Z = true := hw _ (List.mem_of_getElem? (i := 17) rfl)
theorem ow16 {Z : State} {a0 : Array Value} (hw : ∀ d ∈ tables_1, d.before a0 Z = true) : (Jvm.Cond.selects "com/example/reckonmill/reckonmill/lib/model/tree/Comparison" ({ cls := "com/example/reckonmill/reckonmill/lib/model/tree/Comparison", name := "ordinal", desc := "()I" } : Jvm.MethodName) ({ cls := "java/lang/Enum", name := "ordinal", desc := "()I" } : Jvm.MethodName)).before a0 Z = true := hw _ (List.mem_of_getElem? (i := 16) rfl)
theorem ow13 {Z : State} {a0 : Array Value} (hw : ∀ d ∈ tables_1, d.before a0 Z = true) : (Jvm.Cond.sameMethod "com/example/reckonmill/reckonmill/lib/model/tree/Comparison" "java/lang/Enum" "ordinal" "()I").before a0 Z = true := hw _ (List.mem_of_getElem? (i := 13) rfl)
abbrev mn1 : MethodName := ⟨"com/example/reckonmill/reckonmill/lib/model/tree/Comparison", "ordinal", "()I"⟩
theorem ow14 {Z : State} {a0 : Array Value} (hw : ∀ d ∈ tables_1, d.before a0 Z = true) : (Jvm.Cond.declares ({ cls := "java/lang/Enum", name := "ordinal", desc := "()I" } : Jvm.MethodName)).before a0 Z = true := hw _ (List.mem_of_getElem? (i := 14) rfl)
theorem ow15 {Z : State} {a0 : Array Value} (hw : ∀ d ∈ tables_1, d.before a0 Z = true) : (Jvm.Cond.instanceMethod ({ cls := "java/lang/Enum", name := "ordinal", desc := "()I" } : Jvm.MethodName)).before a0 Z = true := hw _ (List.mem_of_getElem? (i := 15) rfl)
abbrev mn2 : MethodName := ⟨"com/example/reckonmill/reckonmill/lib/model/tree/Comparison", "holds", "(I)Z"⟩
theorem ow7 {Z : State} {a0 : Array Value} (hw : ∀ d ∈ tables_1, d.before a0 Z = true) : (Jvm.Cond.methodLink "com/example/reckonmill/reckonmill/lib/model/tree/ComparisonHolds5PinLaw" (34 : Nat) ({ cls := "com/example/reckonmill/reckonmill/lib/model/tree/Comparison", name := "holds", desc := "(I)Z" } : Jvm.MethodName)).before a0 Z = true := hw _ (List.mem_of_getElem? (i := 7) rfl)
theorem ow11 {Z : State} {a0 : Array Value} (hw : ∀ d ∈ tables_1, d.before a0 Z = true) : (Jvm.Cond.code ({ cls := "com/example/reckonmill/reckonmill/lib/model/tree/Comparison", name := "holds", desc := "(I)Z" } : Jvm.MethodName) prog_17_method_5_code (3 : Nat) (Option.some Jvm.ClassFile.FieldType.boolean)).before a0 Z = true := hw _ (List.mem_of_getElem? (i := 11) rfl)
theorem ow1 {Z : State} {a0 : Array Value} (hw : ∀ d ∈ tables_1, d.before a0 Z = true) : (Jvm.Cond.initialized "com/example/reckonmill/reckonmill/lib/model/tree/Comparison").before a0 Z = true := hw _ (List.mem_of_getElem? (i := 1) rfl)
theorem ow10 {Z : State} {a0 : Array Value} (hw : ∀ d ∈ tables_1, d.before a0 Z = true) : (Jvm.Cond.selects "com/example/reckonmill/reckonmill/lib/model/tree/Comparison" ({ cls := "com/example/reckonmill/reckonmill/lib/model/tree/Comparison", name := "holds", desc := "(I)Z" } : Jvm.MethodName) ({ cls := "com/example/reckonmill/reckonmill/lib/model/tree/Comparison", name := "holds", desc := "(I)Z" } : Jvm.MethodName)).before a0 Z = true := hw _ (List.mem_of_getElem? (i := 10) rfl)
theorem ow8 {Z : State} {a0 : Array Value} (hw : ∀ d ∈ tables_1, d.before a0 Z = true) : (Jvm.Cond.declares ({ cls := "com/example/reckonmill/reckonmill/lib/model/tree/Comparison", name := "holds", desc := "(I)Z" } : Jvm.MethodName)).before a0 Z = true := hw _ (List.mem_of_getElem? (i := 8) rfl)
theorem ow9 {Z : State} {a0 : Array Value} (hw : ∀ d ∈ tables_1, d.before a0 Z = true) : (Jvm.Cond.instanceMethod ({ cls := "com/example/reckonmill/reckonmill/lib/model/tree/Comparison", name := "holds", desc := "(I)Z" } : Jvm.MethodName)).before a0 Z = true := hw _ (List.mem_of_getElem? (i := 9) rfl)
abbrev mn3 : MethodName := ⟨"com/example/reckonmill/reckonmill/lib/model/tree/ComparisonHolds5PinLaw", "agrees", "(Lcom/example/reckonmill/reckonmill/lib/model/tree/Comparison;III)Z"⟩
theorem ow0 {Z : State} {a0 : Array Value} (hw : ∀ d ∈ tables_1, d.before a0 Z = true) : (Jvm.Cond.fieldLink "com/example/reckonmill/reckonmill/lib/model/tree/ComparisonHolds5PinLaw" (7 : Nat) "com/example/reckonmill/reckonmill/lib/model/tree/Comparison" "EQUAL" "Lcom/example/reckonmill/reckonmill/lib/model/tree/Comparison;").before a0 Z = true := hw _ (List.mem_of_getElem? (i := 0) rfl)
theorem ow3 {Z : State} {a0 : Array Value} (hw : ∀ d ∈ tables_1, d.before a0 Z = true) : (Jvm.Cond.methodLink "com/example/reckonmill/reckonmill/lib/model/tree/ComparisonHolds5PinLaw" (13 : Nat) ({ cls := "com/example/reckonmill/reckonmill/lib/model/tree/ComparisonHolds5PinLaw", name := "agrees", desc := "(Lcom/example/reckonmill/reckonmill/lib/model/tree/Comparison;III)Z" } : Jvm.MethodName)).before a0 Z = true := hw _ (List.mem_of_getElem? (i := 3) rfl)
theorem ow6 {Z : State} {a0 : Array Value} (hw : ∀ d ∈ tables_1, d.before a0 Z = true) : (Jvm.Cond.code ({ cls := "com/example/reckonmill/reckonmill/lib/model/tree/ComparisonHolds5PinLaw", name := "agrees", desc := "(Lcom/example/reckonmill/reckonmill/lib/model/tree/Comparison;III)Z" } : Jvm.MethodName) method_3_code (5 : Nat) (Option.some Jvm.ClassFile.FieldType.boolean)).before a0 Z = true := hw _ (List.mem_of_getElem? (i := 6) rfl)
theorem ow5 {Z : State} {a0 : Array Value} (hw : ∀ d ∈ tables_1, d.before a0 Z = true) : (Jvm.Cond.initialized "com/example/reckonmill/reckonmill/lib/model/tree/ComparisonHolds5PinLaw").before a0 Z = true := hw _ (List.mem_of_getElem? (i := 5) rfl)
theorem ow4 {Z : State} {a0 : Array Value} (hw : ∀ d ∈ tables_1, d.before a0 Z = true) : (Jvm.Cond.static ({ cls := "com/example/reckonmill/reckonmill/lib/model/tree/ComparisonHolds5PinLaw", name := "agrees", desc := "(Lcom/example/reckonmill/reckonmill/lib/model/tree/Comparison;III)Z" } : Jvm.MethodName)).before a0 Z = true := hw _ (List.mem_of_getElem? (i := 4) rfl)
theorem ow21 {Z : State} {a0 : Array Value} (hw : ∀ d ∈ tables_1, d.before a0 Z = true) : (Jvm.Cond.fieldLink "com/example/reckonmill/reckonmill/lib/model/tree/ComparisonHolds5PinLaw" (19 : Nat) "com/example/reckonmill/reckonmill/lib/model/tree/Comparison" "NOT_EQUAL" "Lcom/example/reckonmill/reckonmill/lib/model/tree/Comparison;").before a0 Z = true := hw _ (List.mem_of_getElem? (i := 21) rfl)
theorem ow23 {Z : State} {a0 : Array Value} (hw : ∀ d ∈ tables_1, d.before a0 Z = true) : (Jvm.Cond.fieldLink "com/example/reckonmill/reckonmill/lib/model/tree/ComparisonHolds5PinLaw" (22 : Nat) "com/example/reckonmill/reckonmill/lib/model/tree/Comparison" "LESS" "Lcom/example/reckonmill/reckonmill/lib/model/tree/Comparison;").before a0 Z = true := hw _ (List.mem_of_getElem? (i := 23) rfl)
theorem ow25 {Z : State} {a0 : Array Value} (hw : ∀ d ∈ tables_1, d.before a0 Z = true) : (Jvm.Cond.fieldLink "com/example/reckonmill/reckonmill/lib/model/tree/ComparisonHolds5PinLaw" (25 : Nat) "com/example/reckonmill/reckonmill/lib/model/tree/Comparison" "LESS_OR_EQUAL" "Lcom/example/reckonmill/reckonmill/lib/model/tree/Comparison;").before a0 Z = true := hw _ (List.mem_of_getElem? (i := 25) rfl)
theorem ow27 {Z : State} {a0 : Array Value} (hw : ∀ d ∈ tables_1, d.before a0 Z = true) : (Jvm.Cond.fieldLink "com/example/reckonmill/reckonmill/lib/model/tree/ComparisonHolds5PinLaw" (28 : Nat) "com/example/reckonmill/reckonmill/lib/model/tree/Comparison" "GREATER" "Lcom/example/reckonmill/reckonmill/lib/model/tree/Comparison;").before a0 Z = true := hw _ (List.mem_of_getElem? (i := 27) rfl)
theorem ow29 {Z : State} {a0 : Array Value} (hw : ∀ d ∈ tables_1, d.before a0 Z = true) : (Jvm.Cond.fieldLink "com/example/reckonmill/reckonmill/lib/model/tree/ComparisonHolds5PinLaw" (31 : Nat) "com/example/reckonmill/reckonmill/lib/model/tree/Comparison" "GREATER_OR_EQUAL" "Lcom/example/reckonmill/reckonmill/lib/model/tree/Comparison;").before a0 Z = true := hw _ (List.mem_of_getElem? (i := 29) rfl)
theorem ow2 {Z : State} {a0 : Array Value} (hw : ∀ d ∈ tables_1, d.before a0 Z = true) : (Jvm.Cond.laysStatic "com/example/reckonmill/reckonmill/lib/model/tree/Comparison" "EQUAL" "Lcom/example/reckonmill/reckonmill/lib/model/tree/Comparison;").before a0 Z = true := hw _ (List.mem_of_getElem? (i := 2) rfl)
theorem ow22 {Z : State} {a0 : Array Value} (hw : ∀ d ∈ tables_1, d.before a0 Z = true) : (Jvm.Cond.laysStatic "com/example/reckonmill/reckonmill/lib/model/tree/Comparison" "NOT_EQUAL" "Lcom/example/reckonmill/reckonmill/lib/model/tree/Comparison;").before a0 Z = true := hw _ (List.mem_of_getElem? (i := 22) rfl)
theorem ow24 {Z : State} {a0 : Array Value} (hw : ∀ d ∈ tables_1, d.before a0 Z = true) : (Jvm.Cond.laysStatic "com/example/reckonmill/reckonmill/lib/model/tree/Comparison" "LESS" "Lcom/example/reckonmill/reckonmill/lib/model/tree/Comparison;").before a0 Z = true := hw _ (List.mem_of_getElem? (i := 24) rfl)
theorem ow26 {Z : State} {a0 : Array Value} (hw : ∀ d ∈ tables_1, d.before a0 Z = true) : (Jvm.Cond.laysStatic "com/example/reckonmill/reckonmill/lib/model/tree/Comparison" "LESS_OR_EQUAL" "Lcom/example/reckonmill/reckonmill/lib/model/tree/Comparison;").before a0 Z = true := hw _ (List.mem_of_getElem? (i := 26) rfl)
theorem ow28 {Z : State} {a0 : Array Value} (hw : ∀ d ∈ tables_1, d.before a0 Z = true) : (Jvm.Cond.laysStatic "com/example/reckonmill/reckonmill/lib/model/tree/Comparison" "GREATER" "Lcom/example/reckonmill/reckonmill/lib/model/tree/Comparison;").before a0 Z = true := hw _ (List.mem_of_getElem? (i := 28) rfl)
theorem ow30 {Z : State} {a0 : Array Value} (hw : ∀ d ∈ tables_1, d.before a0 Z = true) : (Jvm.Cond.laysStatic "com/example/reckonmill/reckonmill/lib/model/tree/Comparison" "GREATER_OR_EQUAL" "Lcom/example/reckonmill/reckonmill/lib/model/tree/Comparison;").before a0 Z = true := hw _ (List.mem_of_getElem? (i := 30) rfl)
theorem own_fld_of {s : State} {args : Array Value} {t : Term} {a : Addr} {C n d : String} {k : Int32} (ev : t.eval args s none [] s = some (.ref a)) (h : (Cond.eq (.field t C n d) (.int k)).value args s none s [] = some true) : Fld s s.heap a C n d (.int k) := by
  obtain ⟨x, y, h1, h2, k1, k2⟩ := cmp_v (Or.inl h)
  have h3 : y = .int k := (Option.some.inj h2).symm
  subst h3
  obtain ⟨z, rfl⟩ := k2
  have hz : z = k := by
    have h' := h
    simp only [Cond.value, h1, h2] at h'
    simpa using h'
  subst hz
  refine Fld.start ?_
  simpa [Term.eval, ev] using h1
theorem own_neg {x : Int32} (h : x < 0) : ¬ x = 0 ∧ ¬ 0 < x := by
  rw [Int32.lt_iff_toInt_lt] at h ⊢
  have e : (0 : Int32).toInt = 0 := rfl
  exact ⟨fun q => by rw [q] at h; omega, by omega⟩
theorem own_pos {x : Int32} (h : ¬ x < 0) (h' : ¬ x = 0) : 0 < x := by
  rw [Int32.lt_iff_toInt_lt] at h ⊢
  rw [← Int32.toInt_inj] at h'
  omega
theorem d3_0 : decode jdk_37_method_2_code 0 = .ok (.aload_n 0, 1) := by decide +kernel
theorem d3_1 : decode jdk_37_method_2_code 1 = .ok (.getfield 7, 3) := by decide +kernel
theorem d3_4 : decode jdk_37_method_2_code 4 = .ok (.ireturn, 1) := by decide +kernel
theorem pn_2 : plainName "java/lang/Enum" = true := by first | (simp [plainName, overriddenIn]; done) | decide +kernel
theorem ef_rm3 (m : MethodId) (y0 : Addr) : entryFrame m #[(.ref y0)] 1 = mkF m 0 #[.val (.ref y0)] [] := by first | (simp [entryFrame, mkF, argsToLocals, Value.category]; done) | rfl
def Q3 (Z : State) (y0 : Addr) (u : Int32) (h0 : Heap) (n0 : Nat) (v : Option Value) (h : Heap) (L : List Loc) : Prop := v = some (.int u) ∧ Fr n0 L ∧ h = h0
set_option maxRecDepth 65536 in
set_option maxHeartbeats 40000000 in
theorem rm3 (l : Launch) (Z : State) (a0 : Array Value) (hw : ∀ d ∈ tables_1, d.before a0 Z = true) (ws : List Jvm.Cond) (y0 : Addr) (u : Int32) (h0 : Heap) (n0 : Nat) (Z0 : n0 ≤ h0.size) (F_o : Fld Z h0 y0 "java/lang/Enum" "ordinal" "I" (.int u)) :
    MetFree l mn0 (head1 (Jvm.Cond.code mn0 jdk_37_method_2_code 1 (some .int) :: ws) ({ frames := 0, cells := 0, slots := 0, locals := 0 } : Room)) (fun a U => a = #[(.ref y0)] ∧ Z.Warmed39 U.vm ∧ U.heap = h0) (fun _ _ _ _ _ => True) (fun _ U o U' => ∃ v L, o = .returned v ∧ Q3 Z y0 u h0 n0 v U'.heap L ∧ FrameEnd U o U' L ({ frames := 0, cells := 0, slots := 0, locals := 0 } : Room).cells ({ frames := 0, cells := 0, slots := 0, locals := 0 } : Room).slots) := by
  refine MetFree.of_bodySF (plainFor_of_name pn_2) hisR ?_
  intro p e s m args below meth c s₁ Bd hml0 hP hK
  obtain ⟨rfl, hZ, hh⟩ := hP
  have hx := Bd.exec
  have hby := Bd.bytes
  have hml : c.maxLocals = 1 := hml0
  have hown : s.vm.findClass "java/lang/Enum" = some m.cls := findClass_of_methodNamed Bd.named
  have hnm := (name_of_methodNamed Bd.named Bd.method).1
  have X0 : Stand p l e ({ frames := 0, cells := 0, slots := 0, locals := 0 } : Room) s m #[(.ref y0)] below meth c s₁ [] 0 0 := Stand.of_body Bd
  have e0 : s₁.heap = h0 := by rw [← hh, Bd.state]; rfl
  have N0 := Fr.nil n0
  show own_Ends p e below s (Q3 Z y0 u h0 n0) _ _ s₁ _
  rw [ef_rm3 m y0]
  refine own_go (T' := s₁) (f' := (mkF m 1 #[.val (.ref y0)] [(.ref y0)])) (fun _ k => XS.aloadN X0.here hx rfl (hb hby d3_0) rfl rfl k) ?_
  obtain ⟨T1, X1, e1, st1⟩ := getF X0 hx hZ hown (host := "") (Or.inl (ow19 hw)) Via.refl e0 F_o (g := (mkF m 1 #[.val (.ref y0)] [(.ref y0)])) rfl rfl (hb hby d3_1)
  refine own_go (T' := T1) (f' := (mkF m 4 #[.val (.ref y0)] [(.int u)])) (fun _ k => st1 _ k) ?_
  refine own_ret X1 (v := some (.int u)) (fun h => by rw [Bd.returns] at h; cases h) Bd.notSynchronized (fun fs hr => retI X1 hx Bd.returns (hb hby d3_4) hr) ?_ (by decide) (by decide)
  show Q3 Z y0 u h0 n0 _ T1.heap _
  exact ⟨rfl, N0, e1⟩
theorem pd0 : parseMethodDescriptor "()I" = some ⟨[], some .int⟩ := by decide +kernel
theorem d2_0 : decode prog_17_method_5_code 0 = .ok (.aload_n 0, 1) := by decide +kernel
theorem d2_1 : decode prog_17_method_5_code 1 = .ok (.invokevirtual 61, 3) := by decide +kernel
theorem d2_4 : decode prog_17_method_5_code 4 = .ok (.tableswitch 101 0 4 #[36, 49, 62, 75, 88], 36) := by decide +kernel
theorem d2_40 : decode prog_17_method_5_code 40 = .ok (.iload_n 1, 1) := by decide +kernel
theorem d2_41 : decode prog_17_method_5_code 41 = .ok (.ifCond .ne 7, 3) := by decide +kernel
theorem d2_44 : decode prog_17_method_5_code 44 = .ok (.iconst 1, 1) := by decide +kernel
theorem d2_45 : decode prog_17_method_5_code 45 = .ok (.goto 4, 3) := by decide +kernel
theorem d2_48 : decode prog_17_method_5_code 48 = .ok (.iconst 0, 1) := by decide +kernel
theorem d2_49 : decode prog_17_method_5_code 49 = .ok (.istore_n 2, 1) := by decide +kernel
theorem d2_50 : decode prog_17_method_5_code 50 = .ok (.goto 65, 3) := by decide +kernel
theorem d2_115 : decode prog_17_method_5_code 115 = .ok (.iload_n 2, 1) := by decide +kernel
theorem d2_116 : decode prog_17_method_5_code 116 = .ok (.ireturn, 1) := by decide +kernel
theorem pn_0 : plainName "com/example/reckonmill/reckonmill/lib/model/tree/Comparison" = true := by first | (simp [plainName, overriddenIn]; done) | decide +kernel
theorem ef_rm2_0 (m : MethodId) (y0 : Addr) (y1 : Int32) : entryFrame m #[(.ref y0), (.int y1)] 3 = mkF m 0 #[.val (.ref y0), .val (.int y1), .unset] [] := by first | (simp [entryFrame, mkF, argsToLocals, Value.category]; done) | rfl
def Q2_0 (Z : State) (y0 : Addr) (y1 : Int32) (h0 : Heap) (n0 : Nat) (v : Option Value) (h : Heap) (L : List Loc) : Prop := v = some (.int (own_b2i (y1 = (0 : Int32)))) ∧ Fr n0 L ∧ h = h0
set_option maxRecDepth 65536 in
set_option maxHeartbeats 40000000 in
theorem rm2_0 (l : Launch) (Z : State) (a0 : Array Value) (hw : ∀ d ∈ tables_1, d.before a0 Z = true) (ws : List Jvm.Cond) (y0 : Addr) (y1 : Int32) (h0 : Heap) (n0 : Nat) (Z0 : n0 ≤ h0.size) (F_o : Fld Z h0 y0 "java/lang/Enum" "ordinal" "I" (.int (0 : Int32))) (E_y0 : Exa Z h0 y0 "com/example/reckonmill/reckonmill/lib/model/tree/Comparison") :
    MetFree l mn2 (head1 (Jvm.Cond.code mn2 prog_17_method_5_code 3 (some .boolean) :: ws) ({ frames := 1, cells := 0, slots := 0, locals := 12 } : Room)) (fun a U => a = #[(.ref y0), (.int y1)] ∧ Z.Warmed39 U.vm ∧ U.heap = h0) (fun _ _ _ _ _ => True) (fun _ U o U' => ∃ v L, o = .returned v ∧ Q2_0 Z y0 y1 h0 n0 v U'.heap L ∧ FrameEnd U o U' L ({ frames := 1, cells := 0, slots := 0, locals := 12 } : Room).cells ({ frames := 1, cells := 0, slots := 0, locals := 12 } : Room).slots) := by
  refine MetFree.of_bodySF (plainFor_of_name pn_0) hisR ?_
  intro p e s m args below meth c s₁ Bd hml0 hP hK
  obtain ⟨rfl, hZ, hh⟩ := hP
  have hx := Bd.exec
  have hby := Bd.bytes
  have hml : c.maxLocals = 3 := hml0
  have hown : s.vm.findClass "com/example/reckonmill/reckonmill/lib/model/tree/Comparison" = some m.cls := findClass_of_methodNamed Bd.named
  have hnm := (name_of_methodNamed Bd.named Bd.method).1
  have X0 : Stand p l e ({ frames := 1, cells := 0, slots := 0, locals := 12 } : Room) s m #[(.ref y0), (.int y1)] below meth c s₁ [] 0 0 := Stand.of_body Bd
  have e0 : s₁.heap = h0 := by rw [← hh, Bd.state]; rfl
  have N0 := Fr.nil n0
  show own_Ends p e below s (Q2_0 Z y0 y1 h0 n0) _ _ s₁ _
  rw [ef_rm2_0 m y0 y1]
  refine own_go (T' := s₁) (f' := (mkF m 1 #[.val (.ref y0), .val (.int y1), .unset] [(.ref y0)])) (fun _ k => XS.aloadN X0.here hx rfl (hb hby d2_0) rfl rfl k) ?_
  obtain ⟨cq1, kq1, q1a, q1b, q1c⟩ := isOf hZ e0 E_y0
  obtain ⟨_, _, ⟨T1, L1, k1, n1⟩, -, X1, ⟨Lc1, hQ1, l1, y1, z1⟩, st1⟩ := X0.virtualBackUp hx (owner := "java/lang/Enum") (x := mn1) (y := mn0) hown (mvT hZ (ow12 hw)) (mvT hZ (ow13 hw)) (mvT hZ (ow14 hw)) (by decide) (mvT hZ (ow16 hw)) (mvT hZ (ow15 hw)) (backOf (W := 0) (rm3 l Z a0 hw [] y0 (0 : Int32) h0 n0 Z0 F_o) hZ (ow18 hw) (ow17 hw) (by decide) (by decide)) q1a q1c (g := (mkF m 1 #[.val (.ref y0), .val (.int y1), .unset] [(.ref y0)])) rfl (by rw [hml]; rfl) (Steps.refl _) (argsL := []) (rest := []) (lenOf pd0 rfl) rfl (by show 2 * 0 + _ ≤ _; exact Nat.le_of_eq rfl) (hb hby d2_1) (fun _ _ => ⟨rfl, e0, (by decide : 0 + 0 ≤ _), (by decide : 0 + 0 ≤ _)⟩)
  dsimp only [Pt.U, Pt.locs, Pt.cells, Pt.slots] at X1 l1 y1 z1 st1 hQ1
  subst l1 y1 z1
  obtain ⟨rfl, N1q, hh1⟩ := hQ1
  have N1 := Fr.app N0 N1q
  refine own_go (T' := T1) (f' := (mkF m 41 #[.val (.ref y0), .val (.int y1), .unset] [(.int y1)])) (fun _ k => st1.trans (XS.tswIn X1.here hx rfl (o := 36) (pc0 := 4) (pc' := 40) rfl (hb hby d2_4) rfl (by decide) rfl (by decide) (by decide) (XS.iloadN X1.here hx rfl (hb hby d2_40) rfl k))) ?_
  by_cases hc2 : y1 = (0 : Int32)
  · refine own_go (T' := T1) (f' := (mkF m 116 #[.val (.ref y0), .val (.int y1), .val (.int (1 : Int32))] [(.int (1 : Int32))])) (fun _ k => XS.ifNo X1.here hx rfl (hb hby d2_41) rfl ((if0 _ _).trans (teq hc2).2) (XS.iconst X1.here hx rfl (hb hby d2_44) (XS.goto X1.here hx rfl (pc0 := 45) (pc' := 49) rfl (hb hby d2_45) (by decide) (by decide) (XS.istoreN X1.here hx rfl (hb hby d2_49) rfl (l' := #[.val (.ref y0), .val (.int y1), .val (.int (1 : Int32))]) rfl (XS.goto X1.here hx rfl (pc0 := 50) (pc' := 115) rfl (hb hby d2_50) (by decide) (by decide) (XS.iloadN X1.here hx rfl (hb hby d2_115) rfl k)))))) ?_
    refine own_ret X1 (v := some (.int (1 : Int32))) (fun h => by rw [Bd.returns] at h; cases h) Bd.notSynchronized (fun fs hr => retN X1 hx (t := .boolean) Bd.returns (by simp) (hb hby d2_116) hr) ?_ (by decide) (by decide)
    show Q2_0 Z y0 y1 h0 n0 _ T1.heap _
    refine ⟨?_, N1, hh1⟩
    simp [own_b2i, *]
  · refine own_go (T' := T1) (f' := (mkF m 116 #[.val (.ref y0), .val (.int y1), .val (.int (0 : Int32))] [(.int (0 : Int32))])) (fun _ k => XS.ifYes X1.here hx rfl (pc0 := 41) (pc' := 48) rfl (hb hby d2_41) rfl ((if0 _ _).trans (feq hc2).2) (by decide) (by decide) (XS.iconst X1.here hx rfl (hb hby d2_48) (XS.istoreN X1.here hx rfl (hb hby d2_49) rfl (l' := #[.val (.ref y0), .val (.int y1), .val (.int (0 : Int32))]) rfl (XS.goto X1.here hx rfl (pc0 := 50) (pc' := 115) rfl (hb hby d2_50) (by decide) (by decide) (XS.iloadN X1.here hx rfl (hb hby d2_115) rfl k))))) ?_
    refine own_ret X1 (v := some (.int (0 : Int32))) (fun h => by rw [Bd.returns] at h; cases h) Bd.notSynchronized (fun fs hr => retN X1 hx (t := .boolean) Bd.returns (by simp) (hb hby d2_116) hr) ?_ (by decide) (by decide)
    show Q2_0 Z y0 y1 h0 n0 _ T1.heap _
    refine ⟨?_, N1, hh1⟩
    simp [own_b2i, *]
theorem d2_53 : decode prog_17_method_5_code 53 = .ok (.iload_n 1, 1) := by decide +kernel
theorem d2_54 : decode prog_17_method_5_code 54 = .ok (.ifCond .eq 7, 3) := by decide +kernel
theorem d2_57 : decode prog_17_method_5_code 57 = .ok (.iconst 1, 1) := by decide +kernel
theorem d2_58 : decode prog_17_method_5_code 58 = .ok (.goto 4, 3) := by decide +kernel
theorem d2_61 : decode prog_17_method_5_code 61 = .ok (.iconst 0, 1) := by decide +kernel
theorem d2_62 : decode prog_17_method_5_code 62 = .ok (.istore_n 2, 1) := by decide +kernel
theorem d2_63 : decode prog_17_method_5_code 63 = .ok (.goto 52, 3) := by decide +kernel
theorem ef_rm2_1 (m : MethodId) (y0 : Addr) (y1 : Int32) : entryFrame m #[(.ref y0), (.int y1)] 3 = mkF m 0 #[.val (.ref y0), .val (.int y1), .unset] [] := by first | (simp [entryFrame, mkF, argsToLocals, Value.category]; done) | rfl
def Q2_1 (Z : State) (y0 : Addr) (y1 : Int32) (h0 : Heap) (n0 : Nat) (v : Option Value) (h : Heap) (L : List Loc) : Prop := v = some (.int (own_b2i (¬ (y1 = (0 : Int32))))) ∧ Fr n0 L ∧ h = h0
set_option maxRecDepth 65536 in
set_option maxHeartbeats 40000000 in
theorem rm2_1 (l : Launch) (Z : State) (a0 : Array Value) (hw : ∀ d ∈ tables_1, d.before a0 Z = true) (ws : List Jvm.Cond) (y0 : Addr) (y1 : Int32) (h0 : Heap) (n0 : Nat) (Z0 : n0 ≤ h0.size) (F_o : Fld Z h0 y0 "java/lang/Enum" "ordinal" "I" (.int (1 : Int32))) (E_y0 : Exa Z h0 y0 "com/example/reckonmill/reckonmill/lib/model/tree/Comparison") :
    MetFree l mn2 (head1 (Jvm.Cond.code mn2 prog_17_method_5_code 3 (some .boolean) :: ws) ({ frames := 1, cells := 0, slots := 0, locals := 12 } : Room)) (fun a U => a = #[(.ref y0), (.int y1)] ∧ Z.Warmed39 U.vm ∧ U.heap = h0) (fun _ _ _ _ _ => True) (fun _ U o U' => ∃ v L, o = .returned v ∧ Q2_1 Z y0 y1 h0 n0 v U'.heap L ∧ FrameEnd U o U' L ({ frames := 1, cells := 0, slots := 0, locals := 12 } : Room).cells ({ frames := 1, cells := 0, slots := 0, locals := 12 } : Room).slots) := by
  refine MetFree.of_bodySF (plainFor_of_name pn_0) hisR ?_
  intro p e s m args below meth c s₁ Bd hml0 hP hK
  obtain ⟨rfl, hZ, hh⟩ := hP
  have hx := Bd.exec
  have hby := Bd.bytes
  have hml : c.maxLocals = 3 := hml0
  have hown : s.vm.findClass "com/example/reckonmill/reckonmill/lib/model/tree/Comparison" = some m.cls := findClass_of_methodNamed Bd.named
  have hnm := (name_of_methodNamed Bd.named Bd.method).1
  have X0 : Stand p l e ({ frames := 1, cells := 0, slots := 0, locals := 12 } : Room) s m #[(.ref y0), (.int y1)] below meth c s₁ [] 0 0 := Stand.of_body Bd
  have e0 : s₁.heap = h0 := by rw [← hh, Bd.state]; rfl
  have N0 := Fr.nil n0
  show own_Ends p e below s (Q2_1 Z y0 y1 h0 n0) _ _ s₁ _
  rw [ef_rm2_1 m y0 y1]
  refine own_go (T' := s₁) (f' := (mkF m 1 #[.val (.ref y0), .val (.int y1), .unset] [(.ref y0)])) (fun _ k => XS.aloadN X0.here hx rfl (hb hby d2_0) rfl rfl k) ?_
  obtain ⟨cq1, kq1, q1a, q1b, q1c⟩ := isOf hZ e0 E_y0
  obtain ⟨_, _, ⟨T1, L1, k1, n1⟩, -, X1, ⟨Lc1, hQ1, l1, y1, z1⟩, st1⟩ := X0.virtualBackUp hx (owner := "java/lang/Enum") (x := mn1) (y := mn0) hown (mvT hZ (ow12 hw)) (mvT hZ (ow13 hw)) (mvT hZ (ow14 hw)) (by decide) (mvT hZ (ow16 hw)) (mvT hZ (ow15 hw)) (backOf (W := 0) (rm3 l Z a0 hw [] y0 (1 : Int32) h0 n0 Z0 F_o) hZ (ow18 hw) (ow17 hw) (by decide) (by decide)) q1a q1c (g := (mkF m 1 #[.val (.ref y0), .val (.int y1), .unset] [(.ref y0)])) rfl (by rw [hml]; rfl) (Steps.refl _) (argsL := []) (rest := []) (lenOf pd0 rfl) rfl (by show 2 * 0 + _ ≤ _; exact Nat.le_of_eq rfl) (hb hby d2_1) (fun _ _ => ⟨rfl, e0, (by decide : 0 + 0 ≤ _), (by decide : 0 + 0 ≤ _)⟩)
  dsimp only [Pt.U, Pt.locs, Pt.cells, Pt.slots] at X1 l1 y1 z1 st1 hQ1
  subst l1 y1 z1
  obtain ⟨rfl, N1q, hh1⟩ := hQ1
  have N1 := Fr.app N0 N1q
  refine own_go (T' := T1) (f' := (mkF m 54 #[.val (.ref y0), .val (.int y1), .unset] [(.int y1)])) (fun _ k => st1.trans (XS.tswIn X1.here hx rfl (o := 49) (pc0 := 4) (pc' := 53) rfl (hb hby d2_4) rfl (by decide) rfl (by decide) (by decide) (XS.iloadN X1.here hx rfl (hb hby d2_53) rfl k))) ?_
  by_cases hc2 : y1 = (0 : Int32)
  · refine own_go (T' := T1) (f' := (mkF m 116 #[.val (.ref y0), .val (.int y1), .val (.int (0 : Int32))] [(.int (0 : Int32))])) (fun _ k => XS.ifYes X1.here hx rfl (pc0 := 54) (pc' := 61) rfl (hb hby d2_54) rfl ((if0 _ _).trans (teq hc2).1) (by decide) (by decide) (XS.iconst X1.here hx rfl (hb hby d2_61) (XS.istoreN X1.here hx rfl (hb hby d2_62) rfl (l' := #[.val (.ref y0), .val (.int y1), .val (.int (0 : Int32))]) rfl (XS.goto X1.here hx rfl (pc0 := 63) (pc' := 115) rfl (hb hby d2_63) (by decide) (by decide) (XS.iloadN X1.here hx rfl (hb hby d2_115) rfl k))))) ?_
    refine own_ret X1 (v := some (.int (0 : Int32))) (fun h => by rw [Bd.returns] at h; cases h) Bd.notSynchronized (fun fs hr => retN X1 hx (t := .boolean) Bd.returns (by simp) (hb hby d2_116) hr) ?_ (by decide) (by decide)
    show Q2_1 Z y0 y1 h0 n0 _ T1.heap _
    refine ⟨?_, N1, hh1⟩
    simp [own_b2i, *]
  · refine own_go (T' := T1) (f' := (mkF m 116 #[.val (.ref y0), .val (.int y1), .val (.int (1 : Int32))] [(.int (1 : Int32))])) (fun _ k => XS.ifNo X1.here hx rfl (hb hby d2_54) rfl ((if0 _ _).trans (feq hc2).1) (XS.iconst X1.here hx rfl (hb hby d2_57) (XS.goto X1.here hx rfl (pc0 := 58) (pc' := 62) rfl (hb hby d2_58) (by decide) (by decide) (XS.istoreN X1.here hx rfl (hb hby d2_62) rfl (l' := #[.val (.ref y0), .val (.int y1), .val (.int (1 : Int32))]) rfl (XS.goto X1.here hx rfl (pc0 := 63) (pc' := 115) rfl (hb hby d2_63) (by decide) (by decide) (XS.iloadN X1.here hx rfl (hb hby d2_115) rfl k)))))) ?_
    refine own_ret X1 (v := some (.int (1 : Int32))) (fun h => by rw [Bd.returns] at h; cases h) Bd.notSynchronized (fun fs hr => retN X1 hx (t := .boolean) Bd.returns (by simp) (hb hby d2_116) hr) ?_ (by decide) (by decide)
    show Q2_1 Z y0 y1 h0 n0 _ T1.heap _
    refine ⟨?_, N1, hh1⟩
    simp [own_b2i, *]
theorem d2_66 : decode prog_17_method_5_code 66 = .ok (.iload_n 1, 1) := by decide +kernel
theorem d2_67 : decode prog_17_method_5_code 67 = .ok (.ifCond .ge 7, 3) := by decide +kernel
theorem d2_70 : decode prog_17_method_5_code 70 = .ok (.iconst 1, 1) := by decide +kernel
theorem d2_71 : decode prog_17_method_5_code 71 = .ok (.goto 4, 3) := by decide +kernel
theorem d2_74 : decode prog_17_method_5_code 74 = .ok (.iconst 0, 1) := by decide +kernel
theorem d2_75 : decode prog_17_method_5_code 75 = .ok (.istore_n 2, 1) := by decide +kernel
theorem d2_76 : decode prog_17_method_5_code 76 = .ok (.goto 39, 3) := by decide +kernel
theorem ef_rm2_2 (m : MethodId) (y0 : Addr) (y1 : Int32) : entryFrame m #[(.ref y0), (.int y1)] 3 = mkF m 0 #[.val (.ref y0), .val (.int y1), .unset] [] := by first | (simp [entryFrame, mkF, argsToLocals, Value.category]; done) | rfl
def Q2_2 (Z : State) (y0 : Addr) (y1 : Int32) (h0 : Heap) (n0 : Nat) (v : Option Value) (h : Heap) (L : List Loc) : Prop := v = some (.int (own_b2i (y1 < (0 : Int32)))) ∧ Fr n0 L ∧ h = h0
set_option maxRecDepth 65536 in
set_option maxHeartbeats 40000000 in
theorem rm2_2 (l : Launch) (Z : State) (a0 : Array Value) (hw : ∀ d ∈ tables_1, d.before a0 Z = true) (ws : List Jvm.Cond) (y0 : Addr) (y1 : Int32) (h0 : Heap) (n0 : Nat) (Z0 : n0 ≤ h0.size) (F_o : Fld Z h0 y0 "java/lang/Enum" "ordinal" "I" (.int (2 : Int32))) (E_y0 : Exa Z h0 y0 "com/example/reckonmill/reckonmill/lib/model/tree/Comparison") :
    MetFree l mn2 (head1 (Jvm.Cond.code mn2 prog_17_method_5_code 3 (some .boolean) :: ws) ({ frames := 1, cells := 0, slots := 0, locals := 12 } : Room)) (fun a U => a = #[(.ref y0), (.int y1)] ∧ Z.Warmed39 U.vm ∧ U.heap = h0) (fun _ _ _ _ _ => True) (fun _ U o U' => ∃ v L, o = .returned v ∧ Q2_2 Z y0 y1 h0 n0 v U'.heap L ∧ FrameEnd U o U' L ({ frames := 1, cells := 0, slots := 0, locals := 12 } : Room).cells ({ frames := 1, cells := 0, slots := 0, locals := 12 } : Room).slots) := by
  refine MetFree.of_bodySF (plainFor_of_name pn_0) hisR ?_
  intro p e s m args below meth c s₁ Bd hml0 hP hK
  obtain ⟨rfl, hZ, hh⟩ := hP
  have hx := Bd.exec
  have hby := Bd.bytes
  have hml : c.maxLocals = 3 := hml0
  have hown : s.vm.findClass "com/example/reckonmill/reckonmill/lib/model/tree/Comparison" = some m.cls := findClass_of_methodNamed Bd.named
  have hnm := (name_of_methodNamed Bd.named Bd.method).1
  have X0 : Stand p l e ({ frames := 1, cells := 0, slots := 0, locals := 12 } : Room) s m #[(.ref y0), (.int y1)] below meth c s₁ [] 0 0 := Stand.of_body Bd
  have e0 : s₁.heap = h0 := by rw [← hh, Bd.state]; rfl
  have N0 := Fr.nil n0
  show own_Ends p e below s (Q2_2 Z y0 y1 h0 n0) _ _ s₁ _
  rw [ef_rm2_2 m y0 y1]
  refine own_go (T' := s₁) (f' := (mkF m 1 #[.val (.ref y0), .val (.int y1), .unset] [(.ref y0)])) (fun _ k => XS.aloadN X0.here hx rfl (hb hby d2_0) rfl rfl k) ?_
  obtain ⟨cq1, kq1, q1a, q1b, q1c⟩ := isOf hZ e0 E_y0
  obtain ⟨_, _, ⟨T1, L1, k1, n1⟩, -, X1, ⟨Lc1, hQ1, l1, y1, z1⟩, st1⟩ := X0.virtualBackUp hx (owner := "java/lang/Enum") (x := mn1) (y := mn0) hown (mvT hZ (ow12 hw)) (mvT hZ (ow13 hw)) (mvT hZ (ow14 hw)) (by decide) (mvT hZ (ow16 hw)) (mvT hZ (ow15 hw)) (backOf (W := 0) (rm3 l Z a0 hw [] y0 (2 : Int32) h0 n0 Z0 F_o) hZ (ow18 hw) (ow17 hw) (by decide) (by decide)) q1a q1c (g := (mkF m 1 #[.val (.ref y0), .val (.int y1), .unset] [(.ref y0)])) rfl (by rw [hml]; rfl) (Steps.refl _) (argsL := []) (rest := []) (lenOf pd0 rfl) rfl (by show 2 * 0 + _ ≤ _; exact Nat.le_of_eq rfl) (hb hby d2_1) (fun _ _ => ⟨rfl, e0, (by decide : 0 + 0 ≤ _), (by decide : 0 + 0 ≤ _)⟩)
  dsimp only [Pt.U, Pt.locs, Pt.cells, Pt.slots] at X1 l1 y1 z1 st1 hQ1
  subst l1 y1 z1
  obtain ⟨rfl, N1q, hh1⟩ := hQ1
  have N1 := Fr.app N0 N1q
  refine own_go (T' := T1) (f' := (mkF m 67 #[.val (.ref y0), .val (.int y1), .unset] [(.int y1)])) (fun _ k => st1.trans (XS.tswIn X1.here hx rfl (o := 62) (pc0 := 4) (pc' := 66) rfl (hb hby d2_4) rfl (by decide) rfl (by decide) (by decide) (XS.iloadN X1.here hx rfl (hb hby d2_66) rfl k))) ?_
  by_cases hc2 : y1 < (0 : Int32)
  · refine own_go (T' := T1) (f' := (mkF m 116 #[.val (.ref y0), .val (.int y1), .val (.int (1 : Int32))] [(.int (1 : Int32))])) (fun _ k => XS.ifNo X1.here hx rfl (hb hby d2_67) rfl ((if0 _ _).trans (tlt hc2).2.1) (XS.iconst X1.here hx rfl (hb hby d2_70) (XS.goto X1.here hx rfl (pc0 := 71) (pc' := 75) rfl (hb hby d2_71) (by decide) (by decide) (XS.istoreN X1.here hx rfl (hb hby d2_75) rfl (l' := #[.val (.ref y0), .val (.int y1), .val (.int (1 : Int32))]) rfl (XS.goto X1.here hx rfl (pc0 := 76) (pc' := 115) rfl (hb hby d2_76) (by decide) (by decide) (XS.iloadN X1.here hx rfl (hb hby d2_115) rfl k)))))) ?_
    refine own_ret X1 (v := some (.int (1 : Int32))) (fun h => by rw [Bd.returns] at h; cases h) Bd.notSynchronized (fun fs hr => retN X1 hx (t := .boolean) Bd.returns (by simp) (hb hby d2_116) hr) ?_ (by decide) (by decide)
    show Q2_2 Z y0 y1 h0 n0 _ T1.heap _
    refine ⟨?_, N1, hh1⟩
    simp [own_b2i, *]
  · refine own_go (T' := T1) (f' := (mkF m 116 #[.val (.ref y0), .val (.int y1), .val (.int (0 : Int32))] [(.int (0 : Int32))])) (fun _ k => XS.ifYes X1.here hx rfl (pc0 := 67) (pc' := 74) rfl (hb hby d2_67) rfl ((if0 _ _).trans (flt hc2).2.1) (by decide) (by decide) (XS.iconst X1.here hx rfl (hb hby d2_74) (XS.istoreN X1.here hx rfl (hb hby d2_75) rfl (l' := #[.val (.ref y0), .val (.int y1), .val (.int (0 : Int32))]) rfl (XS.goto X1.here hx rfl (pc0 := 76) (pc' := 115) rfl (hb hby d2_76) (by decide) (by decide) (XS.iloadN X1.here hx rfl (hb hby d2_115) rfl k))))) ?_
    refine own_ret X1 (v := some (.int (0 : Int32))) (fun h => by rw [Bd.returns] at h; cases h) Bd.notSynchronized (fun fs hr => retN X1 hx (t := .boolean) Bd.returns (by simp) (hb hby d2_116) hr) ?_ (by decide) (by decide)
    show Q2_2 Z y0 y1 h0 n0 _ T1.heap _
    refine ⟨?_, N1, hh1⟩
    simp [own_b2i, *]
theorem d2_79 : decode prog_17_method_5_code 79 = .ok (.iload_n 1, 1) := by decide +kernel
theorem d2_80 : decode prog_17_method_5_code 80 = .ok (.ifCond .gt 7, 3) := by decide +kernel
theorem d2_83 : decode prog_17_method_5_code 83 = .ok (.iconst 1, 1) := by decide +kernel
theorem d2_84 : decode prog_17_method_5_code 84 = .ok (.goto 4, 3) := by decide +kernel
theorem d2_87 : decode prog_17_method_5_code 87 = .ok (.iconst 0, 1) := by decide +kernel
theorem d2_88 : decode prog_17_method_5_code 88 = .ok (.istore_n 2, 1) := by decide +kernel
theorem d2_89 : decode prog_17_method_5_code 89 = .ok (.goto 26, 3) := by decide +kernel
theorem ef_rm2_3 (m : MethodId) (y0 : Addr) (y1 : Int32) : entryFrame m #[(.ref y0), (.int y1)] 3 = mkF m 0 #[.val (.ref y0), .val (.int y1), .unset] [] := by first | (simp [entryFrame, mkF, argsToLocals, Value.category]; done) | rfl
def Q2_3 (Z : State) (y0 : Addr) (y1 : Int32) (h0 : Heap) (n0 : Nat) (v : Option Value) (h : Heap) (L : List Loc) : Prop := v = some (.int (own_b2i (¬ ((0 : Int32) < y1)))) ∧ Fr n0 L ∧ h = h0
set_option maxRecDepth 65536 in
set_option maxHeartbeats 40000000 in
theorem rm2_3 (l : Launch) (Z : State) (a0 : Array Value) (hw : ∀ d ∈ tables_1, d.before a0 Z = true) (ws : List Jvm.Cond) (y0 : Addr) (y1 : Int32) (h0 : Heap) (n0 : Nat) (Z0 : n0 ≤ h0.size) (F_o : Fld Z h0 y0 "java/lang/Enum" "ordinal" "I" (.int (3 : Int32))) (E_y0 : Exa Z h0 y0 "com/example/reckonmill/reckonmill/lib/model/tree/Comparison") :
    MetFree l mn2 (head1 (Jvm.Cond.code mn2 prog_17_method_5_code 3 (some .boolean) :: ws) ({ frames := 1, cells := 0, slots := 0, locals := 12 } : Room)) (fun a U => a = #[(.ref y0), (.int y1)] ∧ Z.Warmed39 U.vm ∧ U.heap = h0) (fun _ _ _ _ _ => True) (fun _ U o U' => ∃ v L, o = .returned v ∧ Q2_3 Z y0 y1 h0 n0 v U'.heap L ∧ FrameEnd U o U' L ({ frames := 1, cells := 0, slots := 0, locals := 12 } : Room).cells ({ frames := 1, cells := 0, slots := 0, locals := 12 } : Room).slots) := by
  refine MetFree.of_bodySF (plainFor_of_name pn_0) hisR ?_
  intro p e s m args below meth c s₁ Bd hml0 hP hK
  obtain ⟨rfl, hZ, hh⟩ := hP
  have hx := Bd.exec
  have hby := Bd.bytes
  have hml : c.maxLocals = 3 := hml0
  have hown : s.vm.findClass "com/example/reckonmill/reckonmill/lib/model/tree/Comparison" = some m.cls := findClass_of_methodNamed Bd.named
  have hnm := (name_of_methodNamed Bd.named Bd.method).1
  have X0 : Stand p l e ({ frames := 1, cells := 0, slots := 0, locals := 12 } : Room) s m #[(.ref y0), (.int y1)] below meth c s₁ [] 0 0 := Stand.of_body Bd
  have e0 : s₁.heap = h0 := by rw [← hh, Bd.state]; rfl
  have N0 := Fr.nil n0
  show own_Ends p e below s (Q2_3 Z y0 y1 h0 n0) _ _ s₁ _
  rw [ef_rm2_3 m y0 y1]
  refine own_go (T' := s₁) (f' := (mkF m 1 #[.val (.ref y0), .val (.int y1), .unset] [(.ref y0)])) (fun _ k => XS.aloadN X0.here hx rfl (hb hby d2_0) rfl rfl k) ?_
  obtain ⟨cq1, kq1, q1a, q1b, q1c⟩ := isOf hZ e0 E_y0
  obtain ⟨_, _, ⟨T1, L1, k1, n1⟩, -, X1, ⟨Lc1, hQ1, l1, y1, z1⟩, st1⟩ := X0.virtualBackUp hx (owner := "java/lang/Enum") (x := mn1) (y := mn0) hown (mvT hZ (ow12 hw)) (mvT hZ (ow13 hw)) (mvT hZ (ow14 hw)) (by decide) (mvT hZ (ow16 hw)) (mvT hZ (ow15 hw)) (backOf (W := 0) (rm3 l Z a0 hw [] y0 (3 : Int32) h0 n0 Z0 F_o) hZ (ow18 hw) (ow17 hw) (by decide) (by decide)) q1a q1c (g := (mkF m 1 #[.val (.ref y0), .val (.int y1), .unset] [(.ref y0)])) rfl (by rw [hml]; rfl) (Steps.refl _) (argsL := []) (rest := []) (lenOf pd0 rfl) rfl (by show 2 * 0 + _ ≤ _; exact Nat.le_of_eq rfl) (hb hby d2_1) (fun _ _ => ⟨rfl, e0, (by decide : 0 + 0 ≤ _), (by decide : 0 + 0 ≤ _)⟩)
  dsimp only [Pt.U, Pt.locs, Pt.cells, Pt.slots] at X1 l1 y1 z1 st1 hQ1
  subst l1 y1 z1
  obtain ⟨rfl, N1q, hh1⟩ := hQ1
  have N1 := Fr.app N0 N1q
  refine own_go (T' := T1) (f' := (mkF m 80 #[.val (.ref y0), .val (.int y1), .unset] [(.int y1)])) (fun _ k => st1.trans (XS.tswIn X1.here hx rfl (o := 75) (pc0 := 4) (pc' := 79) rfl (hb hby d2_4) rfl (by decide) rfl (by decide) (by decide) (XS.iloadN X1.here hx rfl (hb hby d2_79) rfl k))) ?_
  by_cases hc2 : (0 : Int32) < y1
  · refine own_go (T' := T1) (f' := (mkF m 116 #[.val (.ref y0), .val (.int y1), .val (.int (0 : Int32))] [(.int (0 : Int32))])) (fun _ k => XS.ifYes X1.here hx rfl (pc0 := 80) (pc' := 87) rfl (hb hby d2_80) rfl ((if0 _ _).trans (tlt hc2).2.2.1) (by decide) (by decide) (XS.iconst X1.here hx rfl (hb hby d2_87) (XS.istoreN X1.here hx rfl (hb hby d2_88) rfl (l' := #[.val (.ref y0), .val (.int y1), .val (.int (0 : Int32))]) rfl (XS.goto X1.here hx rfl (pc0 := 89) (pc' := 115) rfl (hb hby d2_89) (by decide) (by decide) (XS.iloadN X1.here hx rfl (hb hby d2_115) rfl k))))) ?_
    refine own_ret X1 (v := some (.int (0 : Int32))) (fun h => by rw [Bd.returns] at h; cases h) Bd.notSynchronized (fun fs hr => retN X1 hx (t := .boolean) Bd.returns (by simp) (hb hby d2_116) hr) ?_ (by decide) (by decide)
    show Q2_3 Z y0 y1 h0 n0 _ T1.heap _
    refine ⟨?_, N1, hh1⟩
    simp [own_b2i, *]
  · refine own_go (T' := T1) (f' := (mkF m 116 #[.val (.ref y0), .val (.int y1), .val (.int (1 : Int32))] [(.int (1 : Int32))])) (fun _ k => XS.ifNo X1.here hx rfl (hb hby d2_80) rfl ((if0 _ _).trans (flt hc2).2.2.1) (XS.iconst X1.here hx rfl (hb hby d2_83) (XS.goto X1.here hx rfl (pc0 := 84) (pc' := 88) rfl (hb hby d2_84) (by decide) (by decide) (XS.istoreN X1.here hx rfl (hb hby d2_88) rfl (l' := #[.val (.ref y0), .val (.int y1), .val (.int (1 : Int32))]) rfl (XS.goto X1.here hx rfl (pc0 := 89) (pc' := 115) rfl (hb hby d2_89) (by decide) (by decide) (XS.iloadN X1.here hx rfl (hb hby d2_115) rfl k)))))) ?_
    refine own_ret X1 (v := some (.int (1 : Int32))) (fun h => by rw [Bd.returns] at h; cases h) Bd.notSynchronized (fun fs hr => retN X1 hx (t := .boolean) Bd.returns (by simp) (hb hby d2_116) hr) ?_ (by decide) (by decide)
    show Q2_3 Z y0 y1 h0 n0 _ T1.heap _
    refine ⟨?_, N1, hh1⟩
    simp [own_b2i, *]
theorem d2_92 : decode prog_17_method_5_code 92 = .ok (.iload_n 1, 1) := by decide +kernel
theorem d2_93 : decode prog_17_method_5_code 93 = .ok (.ifCond .le 7, 3) := by decide +kernel
theorem d2_96 : decode prog_17_method_5_code 96 = .ok (.iconst 1, 1) := by decide +kernel
theorem d2_97 : decode prog_17_method_5_code 97 = .ok (.goto 4, 3) := by decide +kernel
theorem d2_100 : decode prog_17_method_5_code 100 = .ok (.iconst 0, 1) := by decide +kernel
theorem d2_101 : decode prog_17_method_5_code 101 = .ok (.istore_n 2, 1) := by decide +kernel
theorem d2_102 : decode prog_17_method_5_code 102 = .ok (.goto 13, 3) := by decide +kernel
theorem ef_rm2_4 (m : MethodId) (y0 : Addr) (y1 : Int32) : entryFrame m #[(.ref y0), (.int y1)] 3 = mkF m 0 #[.val (.ref y0), .val (.int y1), .unset] [] := by first | (simp [entryFrame, mkF, argsToLocals, Value.category]; done) | rfl
def Q2_4 (Z : State) (y0 : Addr) (y1 : Int32) (h0 : Heap) (n0 : Nat) (v : Option Value) (h : Heap) (L : List Loc) : Prop := v = some (.int (own_b2i ((0 : Int32) < y1))) ∧ Fr n0 L ∧ h = h0
set_option maxRecDepth 65536 in
set_option maxHeartbeats 40000000 in
theorem rm2_4 (l : Launch) (Z : State) (a0 : Array Value) (hw : ∀ d ∈ tables_1, d.before a0 Z = true) (ws : List Jvm.Cond) (y0 : Addr) (y1 : Int32) (h0 : Heap) (n0 : Nat) (Z0 : n0 ≤ h0.size) (F_o : Fld Z h0 y0 "java/lang/Enum" "ordinal" "I" (.int (4 : Int32))) (E_y0 : Exa Z h0 y0 "com/example/reckonmill/reckonmill/lib/model/tree/Comparison") :
    MetFree l mn2 (head1 (Jvm.Cond.code mn2 prog_17_method_5_code 3 (some .boolean) :: ws) ({ frames := 1, cells := 0, slots := 0, locals := 12 } : Room)) (fun a U => a = #[(.ref y0), (.int y1)] ∧ Z.Warmed39 U.vm ∧ U.heap = h0) (fun _ _ _ _ _ => True) (fun _ U o U' => ∃ v L, o = .returned v ∧ Q2_4 Z y0 y1 h0 n0 v U'.heap L ∧ FrameEnd U o U' L ({ frames := 1, cells := 0, slots := 0, locals := 12 } : Room).cells ({ frames := 1, cells := 0, slots := 0, locals := 12 } : Room).slots) := by
  refine MetFree.of_bodySF (plainFor_of_name pn_0) hisR ?_
  intro p e s m args below meth c s₁ Bd hml0 hP hK
  obtain ⟨rfl, hZ, hh⟩ := hP
  have hx := Bd.exec
  have hby := Bd.bytes
  have hml : c.maxLocals = 3 := hml0
  have hown : s.vm.findClass "com/example/reckonmill/reckonmill/lib/model/tree/Comparison" = some m.cls := findClass_of_methodNamed Bd.named
  have hnm := (name_of_methodNamed Bd.named Bd.method).1
  have X0 : Stand p l e ({ frames := 1, cells := 0, slots := 0, locals := 12 } : Room) s m #[(.ref y0), (.int y1)] below meth c s₁ [] 0 0 := Stand.of_body Bd
  have e0 : s₁.heap = h0 := by rw [← hh, Bd.state]; rfl
  have N0 := Fr.nil n0
  show own_Ends p e below s (Q2_4 Z y0 y1 h0 n0) _ _ s₁ _
  rw [ef_rm2_4 m y0 y1]
  refine own_go (T' := s₁) (f' := (mkF m 1 #[.val (.ref y0), .val (.int y1), .unset] [(.ref y0)])) (fun _ k => XS.aloadN X0.here hx rfl (hb hby d2_0) rfl rfl k) ?_
  obtain ⟨cq1, kq1, q1a, q1b, q1c⟩ := isOf hZ e0 E_y0
  obtain ⟨_, _, ⟨T1, L1, k1, n1⟩, -, X1, ⟨Lc1, hQ1, l1, y1, z1⟩, st1⟩ := X0.virtualBackUp hx (owner := "java/lang/Enum") (x := mn1) (y := mn0) hown (mvT hZ (ow12 hw)) (mvT hZ (ow13 hw)) (mvT hZ (ow14 hw)) (by decide) (mvT hZ (ow16 hw)) (mvT hZ (ow15 hw)) (backOf (W := 0) (rm3 l Z a0 hw [] y0 (4 : Int32) h0 n0 Z0 F_o) hZ (ow18 hw) (ow17 hw) (by decide) (by decide)) q1a q1c (g := (mkF m 1 #[.val (.ref y0), .val (.int y1), .unset] [(.ref y0)])) rfl (by rw [hml]; rfl) (Steps.refl _) (argsL := []) (rest := []) (lenOf pd0 rfl) rfl (by show 2 * 0 + _ ≤ _; exact Nat.le_of_eq rfl) (hb hby d2_1) (fun _ _ => ⟨rfl, e0, (by decide : 0 + 0 ≤ _), (by decide : 0 + 0 ≤ _)⟩)
  dsimp only [Pt.U, Pt.locs, Pt.cells, Pt.slots] at X1 l1 y1 z1 st1 hQ1
  subst l1 y1 z1
  obtain ⟨rfl, N1q, hh1⟩ := hQ1
  have N1 := Fr.app N0 N1q
  refine own_go (T' := T1) (f' := (mkF m 93 #[.val (.ref y0), .val (.int y1), .unset] [(.int y1)])) (fun _ k => st1.trans (XS.tswIn X1.here hx rfl (o := 88) (pc0 := 4) (pc' := 92) rfl (hb hby d2_4) rfl (by decide) rfl (by decide) (by decide) (XS.iloadN X1.here hx rfl (hb hby d2_92) rfl k))) ?_
  by_cases hc2 : (0 : Int32) < y1
  · refine own_go (T' := T1) (f' := (mkF m 116 #[.val (.ref y0), .val (.int y1), .val (.int (1 : Int32))] [(.int (1 : Int32))])) (fun _ k => XS.ifNo X1.here hx rfl (hb hby d2_93) rfl ((if0 _ _).trans (tlt hc2).2.2.2) (XS.iconst X1.here hx rfl (hb hby d2_96) (XS.goto X1.here hx rfl (pc0 := 97) (pc' := 101) rfl (hb hby d2_97) (by decide) (by decide) (XS.istoreN X1.here hx rfl (hb hby d2_101) rfl (l' := #[.val (.ref y0), .val (.int y1), .val (.int (1 : Int32))]) rfl (XS.goto X1.here hx rfl (pc0 := 102) (pc' := 115) rfl (hb hby d2_102) (by decide) (by decide) (XS.iloadN X1.here hx rfl (hb hby d2_115) rfl k)))))) ?_
    refine own_ret X1 (v := some (.int (1 : Int32))) (fun h => by rw [Bd.returns] at h; cases h) Bd.notSynchronized (fun fs hr => retN X1 hx (t := .boolean) Bd.returns (by simp) (hb hby d2_116) hr) ?_ (by decide) (by decide)
    show Q2_4 Z y0 y1 h0 n0 _ T1.heap _
    refine ⟨?_, N1, hh1⟩
    simp [own_b2i, *]
  · refine own_go (T' := T1) (f' := (mkF m 116 #[.val (.ref y0), .val (.int y1), .val (.int (0 : Int32))] [(.int (0 : Int32))])) (fun _ k => XS.ifYes X1.here hx rfl (pc0 := 93) (pc' := 100) rfl (hb hby d2_93) rfl ((if0 _ _).trans (flt hc2).2.2.2) (by decide) (by decide) (XS.iconst X1.here hx rfl (hb hby d2_100) (XS.istoreN X1.here hx rfl (hb hby d2_101) rfl (l' := #[.val (.ref y0), .val (.int y1), .val (.int (0 : Int32))]) rfl (XS.goto X1.here hx rfl (pc0 := 102) (pc' := 115) rfl (hb hby d2_102) (by decide) (by decide) (XS.iloadN X1.here hx rfl (hb hby d2_115) rfl k))))) ?_
    refine own_ret X1 (v := some (.int (0 : Int32))) (fun h => by rw [Bd.returns] at h; cases h) Bd.notSynchronized (fun fs hr => retN X1 hx (t := .boolean) Bd.returns (by simp) (hb hby d2_116) hr) ?_ (by decide) (by decide)
    show Q2_4 Z y0 y1 h0 n0 _ T1.heap _
    refine ⟨?_, N1, hh1⟩
    simp [own_b2i, *]
theorem d2_105 : decode prog_17_method_5_code 105 = .ok (.iload_n 1, 1) := by decide +kernel
theorem d2_106 : decode prog_17_method_5_code 106 = .ok (.ifCond .lt 7, 3) := by decide +kernel
theorem d2_109 : decode prog_17_method_5_code 109 = .ok (.iconst 1, 1) := by decide +kernel
theorem d2_110 : decode prog_17_method_5_code 110 = .ok (.goto 4, 3) := by decide +kernel
theorem d2_113 : decode prog_17_method_5_code 113 = .ok (.iconst 0, 1) := by decide +kernel
theorem d2_114 : decode prog_17_method_5_code 114 = .ok (.istore_n 2, 1) := by decide +kernel
theorem ef_rm2_5 (m : MethodId) (y0 : Addr) (y1 : Int32) : entryFrame m #[(.ref y0), (.int y1)] 3 = mkF m 0 #[.val (.ref y0), .val (.int y1), .unset] [] := by first | (simp [entryFrame, mkF, argsToLocals, Value.category]; done) | rfl
def Q2_5 (Z : State) (y0 : Addr) (y1 : Int32) (h0 : Heap) (n0 : Nat) (v : Option Value) (h : Heap) (L : List Loc) : Prop := v = some (.int (own_b2i (¬ (y1 < (0 : Int32))))) ∧ Fr n0 L ∧ h = h0
set_option maxRecDepth 65536 in
set_option maxHeartbeats 40000000 in
theorem rm2_5 (l : Launch) (Z : State) (a0 : Array Value) (hw : ∀ d ∈ tables_1, d.before a0 Z = true) (ws : List Jvm.Cond) (y0 : Addr) (y1 : Int32) (h0 : Heap) (n0 : Nat) (Z0 : n0 ≤ h0.size) (F_o : Fld Z h0 y0 "java/lang/Enum" "ordinal" "I" (.int (5 : Int32))) (E_y0 : Exa Z h0 y0 "com/example/reckonmill/reckonmill/lib/model/tree/Comparison") :
    MetFree l mn2 (head1 (Jvm.Cond.code mn2 prog_17_method_5_code 3 (some .boolean) :: ws) ({ frames := 1, cells := 0, slots := 0, locals := 12 } : Room)) (fun a U => a = #[(.ref y0), (.int y1)] ∧ Z.Warmed39 U.vm ∧ U.heap = h0) (fun _ _ _ _ _ => True) (fun _ U o U' => ∃ v L, o = .returned v ∧ Q2_5 Z y0 y1 h0 n0 v U'.heap L ∧ FrameEnd U o U' L ({ frames := 1, cells := 0, slots := 0, locals := 12 } : Room).cells ({ frames := 1, cells := 0, slots := 0, locals := 12 } : Room).slots) := by
  refine MetFree.of_bodySF (plainFor_of_name pn_0) hisR ?_
  intro p e s m args below meth c s₁ Bd hml0 hP hK
  obtain ⟨rfl, hZ, hh⟩ := hP
  have hx := Bd.exec
  have hby := Bd.bytes
  have hml : c.maxLocals = 3 := hml0
  have hown : s.vm.findClass "com/example/reckonmill/reckonmill/lib/model/tree/Comparison" = some m.cls := findClass_of_methodNamed Bd.named
  have hnm := (name_of_methodNamed Bd.named Bd.method).1
  have X0 : Stand p l e ({ frames := 1, cells := 0, slots := 0, locals := 12 } : Room) s m #[(.ref y0), (.int y1)] below meth c s₁ [] 0 0 := Stand.of_body Bd
  have e0 : s₁.heap = h0 := by rw [← hh, Bd.state]; rfl
  have N0 := Fr.nil n0
  show own_Ends p e below s (Q2_5 Z y0 y1 h0 n0) _ _ s₁ _
  rw [ef_rm2_5 m y0 y1]
  refine own_go (T' := s₁) (f' := (mkF m 1 #[.val (.ref y0), .val (.int y1), .unset] [(.ref y0)])) (fun _ k => XS.aloadN X0.here hx rfl (hb hby d2_0) rfl rfl k) ?_
  obtain ⟨cq1, kq1, q1a, q1b, q1c⟩ := isOf hZ e0 E_y0
  obtain ⟨_, _, ⟨T1, L1, k1, n1⟩, -, X1, ⟨Lc1, hQ1, l1, y1, z1⟩, st1⟩ := X0.virtualBackUp hx (owner := "java/lang/Enum") (x := mn1) (y := mn0) hown (mvT hZ (ow12 hw)) (mvT hZ (ow13 hw)) (mvT hZ (ow14 hw)) (by decide) (mvT hZ (ow16 hw)) (mvT hZ (ow15 hw)) (backOf (W := 0) (rm3 l Z a0 hw [] y0 (5 : Int32) h0 n0 Z0 F_o) hZ (ow18 hw) (ow17 hw) (by decide) (by decide)) q1a q1c (g := (mkF m 1 #[.val (.ref y0), .val (.int y1), .unset] [(.ref y0)])) rfl (by rw [hml]; rfl) (Steps.refl _) (argsL := []) (rest := []) (lenOf pd0 rfl) rfl (by show 2 * 0 + _ ≤ _; exact Nat.le_of_eq rfl) (hb hby d2_1) (fun _ _ => ⟨rfl, e0, (by decide : 0 + 0 ≤ _), (by decide : 0 + 0 ≤ _)⟩)
  dsimp only [Pt.U, Pt.locs, Pt.cells, Pt.slots] at X1 l1 y1 z1 st1 hQ1
  subst l1 y1 z1
  obtain ⟨rfl, N1q, hh1⟩ := hQ1
  have N1 := Fr.app N0 N1q
  refine own_go (T' := T1) (f' := (mkF m 106 #[.val (.ref y0), .val (.int y1), .unset] [(.int y1)])) (fun _ k => st1.trans (XS.tswOut X1.here hx rfl (pc0 := 4) (pc' := 105) rfl (hb hby d2_4) rfl (by decide) (by decide) (by decide) (XS.iloadN X1.here hx rfl (hb hby d2_105) rfl k))) ?_
  by_cases hc2 : y1 < (0 : Int32)
  · refine own_go (T' := T1) (f' := (mkF m 116 #[.val (.ref y0), .val (.int y1), .val (.int (0 : Int32))] [(.int (0 : Int32))])) (fun _ k => XS.ifYes X1.here hx rfl (pc0 := 106) (pc' := 113) rfl (hb hby d2_106) rfl ((if0 _ _).trans (tlt hc2).1) (by decide) (by decide) (XS.iconst X1.here hx rfl (hb hby d2_113) (XS.istoreN X1.here hx rfl (hb hby d2_114) rfl (l' := #[.val (.ref y0), .val (.int y1), .val (.int (0 : Int32))]) rfl (XS.iloadN X1.here hx rfl (hb hby d2_115) rfl k)))) ?_
    refine own_ret X1 (v := some (.int (0 : Int32))) (fun h => by rw [Bd.returns] at h; cases h) Bd.notSynchronized (fun fs hr => retN X1 hx (t := .boolean) Bd.returns (by simp) (hb hby d2_116) hr) ?_ (by decide) (by decide)
    show Q2_5 Z y0 y1 h0 n0 _ T1.heap _
    refine ⟨?_, N1, hh1⟩
    simp [own_b2i, *]
  · refine own_go (T' := T1) (f' := (mkF m 116 #[.val (.ref y0), .val (.int y1), .val (.int (1 : Int32))] [(.int (1 : Int32))])) (fun _ k => XS.ifNo X1.here hx rfl (hb hby d2_106) rfl ((if0 _ _).trans (flt hc2).1) (XS.iconst X1.here hx rfl (hb hby d2_109) (XS.goto X1.here hx rfl (pc0 := 110) (pc' := 114) rfl (hb hby d2_110) (by decide) (by decide) (XS.istoreN X1.here hx rfl (hb hby d2_114) rfl (l' := #[.val (.ref y0), .val (.int y1), .val (.int (1 : Int32))]) rfl (XS.iloadN X1.here hx rfl (hb hby d2_115) rfl k))))) ?_
    refine own_ret X1 (v := some (.int (1 : Int32))) (fun h => by rw [Bd.returns] at h; cases h) Bd.notSynchronized (fun fs hr => retN X1 hx (t := .boolean) Bd.returns (by simp) (hb hby d2_116) hr) ?_ (by decide) (by decide)
    show Q2_5 Z y0 y1 h0 n0 _ T1.heap _
    refine ⟨?_, N1, hh1⟩
    simp [own_b2i, *]
theorem pd1 : parseMethodDescriptor "(I)Z" = some ⟨[.int], some .boolean⟩ := by decide +kernel
theorem d1_0 : decode method_3_code 0 = .ok (.iload_n 1, 1) := by decide +kernel
theorem d1_1 : decode method_3_code 1 = .ok (.iload_n 2, 1) := by decide +kernel
theorem d1_2 : decode method_3_code 2 = .ok (.iand, 1) := by decide +kernel
theorem d1_3 : decode method_3_code 3 = .ok (.ifCond .eq 7, 3) := by decide +kernel
theorem d1_6 : decode method_3_code 6 = .ok (.iconst 1, 1) := by decide +kernel
theorem d1_7 : decode method_3_code 7 = .ok (.goto 4, 3) := by decide +kernel
theorem d1_10 : decode method_3_code 10 = .ok (.iconst 0, 1) := by decide +kernel
theorem d1_11 : decode method_3_code 11 = .ok (.istore 4, 2) := by decide +kernel
theorem d1_13 : decode method_3_code 13 = .ok (.aload_n 0, 1) := by decide +kernel
theorem d1_14 : decode method_3_code 14 = .ok (.iload_n 3, 1) := by decide +kernel
theorem d1_15 : decode method_3_code 15 = .ok (.invokevirtual 34, 3) := by decide +kernel
theorem d1_18 : decode method_3_code 18 = .ok (.iload 4, 2) := by decide +kernel
theorem d1_20 : decode method_3_code 20 = .ok (.if_icmp .ne 7, 3) := by decide +kernel
theorem d1_23 : decode method_3_code 23 = .ok (.iconst 1, 1) := by decide +kernel
theorem d1_24 : decode method_3_code 24 = .ok (.goto 4, 3) := by decide +kernel
theorem d1_28 : decode method_3_code 28 = .ok (.ireturn, 1) := by decide +kernel
theorem pn_1 : plainName "com/example/reckonmill/reckonmill/lib/model/tree/ComparisonHolds5PinLaw" = true := by first | (simp [plainName, overriddenIn]; done) | decide +kernel
theorem ef_rm1_0 (m : MethodId) (y0 : Addr) (y1 : Int32) (y2 : Int32) (y3 : Int32) : entryFrame m #[(.ref y0), (.int y1), (.int y2), (.int y3)] 5 = mkF m 0 #[.val (.ref y0), .val (.int y1), .val (.int y2), .val (.int y3), .unset] [] := by first | (simp [entryFrame, mkF, argsToLocals, Value.category]; done) | rfl
def Q1_0 (Z : State) (y0 : Addr) (y1 : Int32) (y2 : Int32) (y3 : Int32) (h0 : Heap) (n0 : Nat) (v : Option Value) (h : Heap) (L : List Loc) : Prop := v = some (.int (1 : Int32)) ∧ Fr n0 L ∧ h = h0
set_option maxRecDepth 65536 in
set_option maxHeartbeats 40000000 in
theorem rm1_0 (l : Launch) (Z : State) (a0 : Array Value) (hw : ∀ d ∈ tables_1, d.before a0 Z = true) (ws : List Jvm.Cond) (y0 : Addr) (y1 : Int32) (y2 : Int32) (y3 : Int32) (h0 : Heap) (n0 : Nat) (Z0 : n0 ≤ h0.size) (F_o : Fld Z h0 y0 "java/lang/Enum" "ordinal" "I" (.int (0 : Int32))) (E_y0 : Exa Z h0 y0 "com/example/reckonmill/reckonmill/lib/model/tree/Comparison") (hq : (y3 = (0 : Int32)) ↔ ¬ ((y1 &&& y2) = (0 : Int32))) :
    MetFree l mn3 (head1 (Jvm.Cond.code mn3 method_3_code 5 (some .boolean) :: ws) ({ frames := 2, cells := 0, slots := 0, locals := 26 } : Room)) (fun a U => a = #[(.ref y0), (.int y1), (.int y2), (.int y3)] ∧ Z.Warmed39 U.vm ∧ U.heap = h0) (fun _ _ _ _ _ => True) (fun _ U o U' => ∃ v L, o = .returned v ∧ Q1_0 Z y0 y1 y2 y3 h0 n0 v U'.heap L ∧ FrameEnd U o U' L ({ frames := 2, cells := 0, slots := 0, locals := 26 } : Room).cells ({ frames := 2, cells := 0, slots := 0, locals := 26 } : Room).slots) := by
  refine MetFree.of_bodySF (plainFor_of_name pn_1) hisR ?_
  intro p e s m args below meth c s₁ Bd hml0 hP hK
  obtain ⟨rfl, hZ, hh⟩ := hP
  have hx := Bd.exec
  have hby := Bd.bytes
  have hml : c.maxLocals = 5 := hml0
  have hown : s.vm.findClass "com/example/reckonmill/reckonmill/lib/model/tree/ComparisonHolds5PinLaw" = some m.cls := findClass_of_methodNamed Bd.named
  have hnm := (name_of_methodNamed Bd.named Bd.method).1
  have X0 : Stand p l e ({ frames := 2, cells := 0, slots := 0, locals := 26 } : Room) s m #[(.ref y0), (.int y1), (.int y2), (.int y3)] below meth c s₁ [] 0 0 := Stand.of_body Bd
  have e0 : s₁.heap = h0 := by rw [← hh, Bd.state]; rfl
  have N0 := Fr.nil n0
  show own_Ends p e below s (Q1_0 Z y0 y1 y2 y3 h0 n0) _ _ s₁ _
  rw [ef_rm1_0 m y0 y1 y2 y3]
  refine own_go (T' := s₁) (f' := (mkF m 3 #[.val (.ref y0), .val (.int y1), .val (.int y2), .val (.int y3), .unset] [(.int (y1 &&& y2))])) (fun _ k => XS.iloadN X0.here hx rfl (hb hby d1_0) rfl (XS.iloadN X0.here hx rfl (hb hby d1_1) rfl (XS.iand X0.here hx rfl (hb hby d1_2) rfl k))) ?_
  by_cases hc1 : (y1 &&& y2) = (0 : Int32)
  · refine own_go (T' := s₁) (f' := (mkF m 15 #[.val (.ref y0), .val (.int y1), .val (.int y2), .val (.int y3), .val (.int (0 : Int32))] [(.int y3), (.ref y0)])) (fun _ k => XS.ifYes X0.here hx rfl (pc0 := 3) (pc' := 10) rfl (hb hby d1_3) rfl ((if0 _ _).trans (teq hc1).1) (by decide) (by decide) (XS.iconst X0.here hx rfl (hb hby d1_10) (XS.istore X0.here hx rfl (hb hby d1_11) rfl (l' := #[.val (.ref y0), .val (.int y1), .val (.int y2), .val (.int y3), .val (.int (0 : Int32))]) rfl (XS.aloadN X0.here hx rfl (hb hby d1_13) rfl rfl (XS.iloadN X0.here hx rfl (hb hby d1_14) rfl k))))) ?_
    obtain ⟨cq2, kq2, q2a, q2b, q2c⟩ := isOf hZ e0 E_y0
    obtain ⟨_, _, ⟨T2, L2, k2, n2⟩, -, X2, ⟨Lc2, hQ2, l2, y2, z2⟩, st2⟩ := X0.virtualBack hx (y := mn2) (z := mn2) hown (mvT hZ (ow7 hw)) (mvT hZ (ow8 hw)) (notFace_of_selects (args := #[]) (mvT hZ (ow10 hw))) (mvT hZ (ow10 hw)) (mvT hZ (ow9 hw)) (by decide) (backOf (W := 0) (rm2_0 l Z a0 hw [] y0 y3 h0 n0 Z0 F_o E_y0) hZ (ow11 hw) (ow1 hw) (by decide) (by decide)) q2a q2c (g := (mkF m 15 #[.val (.ref y0), .val (.int y1), .val (.int y2), .val (.int y3), .val (.int (0 : Int32))] [(.int y3), (.ref y0)])) rfl (by rw [hml]; rfl) (Steps.refl _) (argsL := [(.int y3)]) (rest := []) (lenOf pd1 rfl) rfl (by show 2 * 0 + _ ≤ _; exact Nat.le_of_eq rfl) (hb hby d1_15) (fun _ _ => ⟨rfl, e0, (by decide : 0 + 0 ≤ _), (by decide : 0 + 0 ≤ _)⟩)
    dsimp only [Pt.U, Pt.locs, Pt.cells, Pt.slots] at X2 l2 y2 z2 st2 hQ2
    subst l2 y2 z2
    obtain ⟨rfl, N2q, hh2⟩ := hQ2
    have N2 := Fr.app N0 N2q
    refine own_go (T' := T2) (f' := (mkF m 28 #[.val (.ref y0), .val (.int y1), .val (.int y2), .val (.int y3), .val (.int (0 : Int32))] [(.int (1 : Int32))])) (fun _ k => st2.trans (XS.iload X2.here hx rfl (hb hby d1_18) rfl (XS.icmpNo X2.here hx rfl (hb hby d1_20) rfl (teq (own_b2i_f (fun q => (hq.mp q) hc1))).2 (XS.iconst X2.here hx rfl (hb hby d1_23) (XS.goto X2.here hx rfl (pc0 := 24) (pc' := 28) rfl (hb hby d1_24) (by decide) (by decide) k))))) ?_
    refine own_ret X2 (v := some (.int (1 : Int32))) (fun h => by rw [Bd.returns] at h; cases h) Bd.notSynchronized (fun fs hr => retN X2 hx (t := .boolean) Bd.returns (by simp) (hb hby d1_28) hr) ?_ (by decide) (by decide)
    show Q1_0 Z y0 y1 y2 y3 h0 n0 _ T2.heap _
    exact ⟨rfl, N2, hh2⟩
  · refine own_go (T' := s₁) (f' := (mkF m 15 #[.val (.ref y0), .val (.int y1), .val (.int y2), .val (.int y3), .val (.int (1 : Int32))] [(.int y3), (.ref y0)])) (fun _ k => XS.ifNo X0.here hx rfl (hb hby d1_3) rfl ((if0 _ _).trans (feq hc1).1) (XS.iconst X0.here hx rfl (hb hby d1_6) (XS.goto X0.here hx rfl (pc0 := 7) (pc' := 11) rfl (hb hby d1_7) (by decide) (by decide) (XS.istore X0.here hx rfl (hb hby d1_11) rfl (l' := #[.val (.ref y0), .val (.int y1), .val (.int y2), .val (.int y3), .val (.int (1 : Int32))]) rfl (XS.aloadN X0.here hx rfl (hb hby d1_13) rfl rfl (XS.iloadN X0.here hx rfl (hb hby d1_14) rfl k)))))) ?_
    obtain ⟨cq3, kq3, q3a, q3b, q3c⟩ := isOf hZ e0 E_y0
    obtain ⟨_, _, ⟨T3, L3, k3, n3⟩, -, X3, ⟨Lc3, hQ3, l3, y3, z3⟩, st3⟩ := X0.virtualBack hx (y := mn2) (z := mn2) hown (mvT hZ (ow7 hw)) (mvT hZ (ow8 hw)) (notFace_of_selects (args := #[]) (mvT hZ (ow10 hw))) (mvT hZ (ow10 hw)) (mvT hZ (ow9 hw)) (by decide) (backOf (W := 0) (rm2_0 l Z a0 hw [] y0 y3 h0 n0 Z0 F_o E_y0) hZ (ow11 hw) (ow1 hw) (by decide) (by decide)) q3a q3c (g := (mkF m 15 #[.val (.ref y0), .val (.int y1), .val (.int y2), .val (.int y3), .val (.int (1 : Int32))] [(.int y3), (.ref y0)])) rfl (by rw [hml]; rfl) (Steps.refl _) (argsL := [(.int y3)]) (rest := []) (lenOf pd1 rfl) rfl (by show 2 * 0 + _ ≤ _; exact Nat.le_of_eq rfl) (hb hby d1_15) (fun _ _ => ⟨rfl, e0, (by decide : 0 + 0 ≤ _), (by decide : 0 + 0 ≤ _)⟩)
    dsimp only [Pt.U, Pt.locs, Pt.cells, Pt.slots] at X3 l3 y3 z3 st3 hQ3
    subst l3 y3 z3
    obtain ⟨rfl, N3q, hh3⟩ := hQ3
    have N3 := Fr.app N0 N3q
    refine own_go (T' := T3) (f' := (mkF m 28 #[.val (.ref y0), .val (.int y1), .val (.int y2), .val (.int y3), .val (.int (1 : Int32))] [(.int (1 : Int32))])) (fun _ k => st3.trans (XS.iload X3.here hx rfl (hb hby d1_18) rfl (XS.icmpNo X3.here hx rfl (hb hby d1_20) rfl (teq (own_b2i_1 (hq.mpr hc1))).2 (XS.iconst X3.here hx rfl (hb hby d1_23) (XS.goto X3.here hx rfl (pc0 := 24) (pc' := 28) rfl (hb hby d1_24) (by decide) (by decide) k))))) ?_
    refine own_ret X3 (v := some (.int (1 : Int32))) (fun h => by rw [Bd.returns] at h; cases h) Bd.notSynchronized (fun fs hr => retN X3 hx (t := .boolean) Bd.returns (by simp) (hb hby d1_28) hr) ?_ (by decide) (by decide)
    show Q1_0 Z y0 y1 y2 y3 h0 n0 _ T3.heap _
    exact ⟨rfl, N3, hh3⟩
theorem ef_rm1_1 (m : MethodId) (y0 : Addr) (y1 : Int32) (y2 : Int32) (y3 : Int32) : entryFrame m #[(.ref y0), (.int y1), (.int y2), (.int y3)] 5 = mkF m 0 #[.val (.ref y0), .val (.int y1), .val (.int y2), .val (.int y3), .unset] [] := by first | (simp [entryFrame, mkF, argsToLocals, Value.category]; done) | rfl
def Q1_1 (Z : State) (y0 : Addr) (y1 : Int32) (y2 : Int32) (y3 : Int32) (h0 : Heap) (n0 : Nat) (v : Option Value) (h : Heap) (L : List Loc) : Prop := v = some (.int (1 : Int32)) ∧ Fr n0 L ∧ h = h0
set_option maxRecDepth 65536 in
set_option maxHeartbeats 40000000 in
theorem rm1_1 (l : Launch) (Z : State) (a0 : Array Value) (hw : ∀ d ∈ tables_1, d.before a0 Z = true) (ws : List Jvm.Cond) (y0 : Addr) (y1 : Int32) (y2 : Int32) (y3 : Int32) (h0 : Heap) (n0 : Nat) (Z0 : n0 ≤ h0.size) (F_o : Fld Z h0 y0 "java/lang/Enum" "ordinal" "I" (.int (1 : Int32))) (E_y0 : Exa Z h0 y0 "com/example/reckonmill/reckonmill/lib/model/tree/Comparison") (hq : (¬ (y3 = (0 : Int32))) ↔ ¬ ((y1 &&& y2) = (0 : Int32))) :
    MetFree l mn3 (head1 (Jvm.Cond.code mn3 method_3_code 5 (some .boolean) :: ws) ({ frames := 2, cells := 0, slots := 0, locals := 26 } : Room)) (fun a U => a = #[(.ref y0), (.int y1), (.int y2), (.int y3)] ∧ Z.Warmed39 U.vm ∧ U.heap = h0) (fun _ _ _ _ _ => True) (fun _ U o U' => ∃ v L, o = .returned v ∧ Q1_1 Z y0 y1 y2 y3 h0 n0 v U'.heap L ∧ FrameEnd U o U' L ({ frames := 2, cells := 0, slots := 0, locals := 26 } : Room).cells ({ frames := 2, cells := 0, slots := 0, locals := 26 } : Room).slots) := by
  refine MetFree.of_bodySF (plainFor_of_name pn_1) hisR ?_
  intro p e s m args below meth c s₁ Bd hml0 hP hK
  obtain ⟨rfl, hZ, hh⟩ := hP
  have hx := Bd.exec
  have hby := Bd.bytes
  have hml : c.maxLocals = 5 := hml0
  have hown : s.vm.findClass "com/example/reckonmill/reckonmill/lib/model/tree/ComparisonHolds5PinLaw" = some m.cls := findClass_of_methodNamed Bd.named
  have hnm := (name_of_methodNamed Bd.named Bd.method).1
  have X0 : Stand p l e ({ frames := 2, cells := 0, slots := 0, locals := 26 } : Room) s m #[(.ref y0), (.int y1), (.int y2), (.int y3)] below meth c s₁ [] 0 0 := Stand.of_body Bd
  have e0 : s₁.heap = h0 := by rw [← hh, Bd.state]; rfl
  have N0 := Fr.nil n0
  show own_Ends p e below s (Q1_1 Z y0 y1 y2 y3 h0 n0) _ _ s₁ _
  rw [ef_rm1_1 m y0 y1 y2 y3]
  refine own_go (T' := s₁) (f' := (mkF m 3 #[.val (.ref y0), .val (.int y1), .val (.int y2), .val (.int y3), .unset] [(.int (y1 &&& y2))])) (fun _ k => XS.iloadN X0.here hx rfl (hb hby d1_0) rfl (XS.iloadN X0.here hx rfl (hb hby d1_1) rfl (XS.iand X0.here hx rfl (hb hby d1_2) rfl k))) ?_
  by_cases hc1 : (y1 &&& y2) = (0 : Int32)
  · refine own_go (T' := s₁) (f' := (mkF m 15 #[.val (.ref y0), .val (.int y1), .val (.int y2), .val (.int y3), .val (.int (0 : Int32))] [(.int y3), (.ref y0)])) (fun _ k => XS.ifYes X0.here hx rfl (pc0 := 3) (pc' := 10) rfl (hb hby d1_3) rfl ((if0 _ _).trans (teq hc1).1) (by decide) (by decide) (XS.iconst X0.here hx rfl (hb hby d1_10) (XS.istore X0.here hx rfl (hb hby d1_11) rfl (l' := #[.val (.ref y0), .val (.int y1), .val (.int y2), .val (.int y3), .val (.int (0 : Int32))]) rfl (XS.aloadN X0.here hx rfl (hb hby d1_13) rfl rfl (XS.iloadN X0.here hx rfl (hb hby d1_14) rfl k))))) ?_
    obtain ⟨cq2, kq2, q2a, q2b, q2c⟩ := isOf hZ e0 E_y0
    obtain ⟨_, _, ⟨T2, L2, k2, n2⟩, -, X2, ⟨Lc2, hQ2, l2, y2, z2⟩, st2⟩ := X0.virtualBack hx (y := mn2) (z := mn2) hown (mvT hZ (ow7 hw)) (mvT hZ (ow8 hw)) (notFace_of_selects (args := #[]) (mvT hZ (ow10 hw))) (mvT hZ (ow10 hw)) (mvT hZ (ow9 hw)) (by decide) (backOf (W := 0) (rm2_1 l Z a0 hw [] y0 y3 h0 n0 Z0 F_o E_y0) hZ (ow11 hw) (ow1 hw) (by decide) (by decide)) q2a q2c (g := (mkF m 15 #[.val (.ref y0), .val (.int y1), .val (.int y2), .val (.int y3), .val (.int (0 : Int32))] [(.int y3), (.ref y0)])) rfl (by rw [hml]; rfl) (Steps.refl _) (argsL := [(.int y3)]) (rest := []) (lenOf pd1 rfl) rfl (by show 2 * 0 + _ ≤ _; exact Nat.le_of_eq rfl) (hb hby d1_15) (fun _ _ => ⟨rfl, e0, (by decide : 0 + 0 ≤ _), (by decide : 0 + 0 ≤ _)⟩)
    dsimp only [Pt.U, Pt.locs, Pt.cells, Pt.slots] at X2 l2 y2 z2 st2 hQ2
    subst l2 y2 z2
    obtain ⟨rfl, N2q, hh2⟩ := hQ2
    have N2 := Fr.app N0 N2q
    refine own_go (T' := T2) (f' := (mkF m 28 #[.val (.ref y0), .val (.int y1), .val (.int y2), .val (.int y3), .val (.int (0 : Int32))] [(.int (1 : Int32))])) (fun _ k => st2.trans (XS.iload X2.here hx rfl (hb hby d1_18) rfl (XS.icmpNo X2.here hx rfl (hb hby d1_20) rfl (teq (own_b2i_f (fun q => (hq.mp q) hc1))).2 (XS.iconst X2.here hx rfl (hb hby d1_23) (XS.goto X2.here hx rfl (pc0 := 24) (pc' := 28) rfl (hb hby d1_24) (by decide) (by decide) k))))) ?_
    refine own_ret X2 (v := some (.int (1 : Int32))) (fun h => by rw [Bd.returns] at h; cases h) Bd.notSynchronized (fun fs hr => retN X2 hx (t := .boolean) Bd.returns (by simp) (hb hby d1_28) hr) ?_ (by decide) (by decide)
    show Q1_1 Z y0 y1 y2 y3 h0 n0 _ T2.heap _
    exact ⟨rfl, N2, hh2⟩
  · refine own_go (T' := s₁) (f' := (mkF m 15 #[.val (.ref y0), .val (.int y1), .val (.int y2), .val (.int y3), .val (.int (1 : Int32))] [(.int y3), (.ref y0)])) (fun _ k => XS.ifNo X0.here hx rfl (hb hby d1_3) rfl ((if0 _ _).trans (feq hc1).1) (XS.iconst X0.here hx rfl (hb hby d1_6) (XS.goto X0.here hx rfl (pc0 := 7) (pc' := 11) rfl (hb hby d1_7) (by decide) (by decide) (XS.istore X0.here hx rfl (hb hby d1_11) rfl (l' := #[.val (.ref y0), .val (.int y1), .val (.int y2), .val (.int y3), .val (.int (1 : Int32))]) rfl (XS.aloadN X0.here hx rfl (hb hby d1_13) rfl rfl (XS.iloadN X0.here hx rfl (hb hby d1_14) rfl k)))))) ?_
    obtain ⟨cq3, kq3, q3a, q3b, q3c⟩ := isOf hZ e0 E_y0
    obtain ⟨_, _, ⟨T3, L3, k3, n3⟩, -, X3, ⟨Lc3, hQ3, l3, y3, z3⟩, st3⟩ := X0.virtualBack hx (y := mn2) (z := mn2) hown (mvT hZ (ow7 hw)) (mvT hZ (ow8 hw)) (notFace_of_selects (args := #[]) (mvT hZ (ow10 hw))) (mvT hZ (ow10 hw)) (mvT hZ (ow9 hw)) (by decide) (backOf (W := 0) (rm2_1 l Z a0 hw [] y0 y3 h0 n0 Z0 F_o E_y0) hZ (ow11 hw) (ow1 hw) (by decide) (by decide)) q3a q3c (g := (mkF m 15 #[.val (.ref y0), .val (.int y1), .val (.int y2), .val (.int y3), .val (.int (1 : Int32))] [(.int y3), (.ref y0)])) rfl (by rw [hml]; rfl) (Steps.refl _) (argsL := [(.int y3)]) (rest := []) (lenOf pd1 rfl) rfl (by show 2 * 0 + _ ≤ _; exact Nat.le_of_eq rfl) (hb hby d1_15) (fun _ _ => ⟨rfl, e0, (by decide : 0 + 0 ≤ _), (by decide : 0 + 0 ≤ _)⟩)
    dsimp only [Pt.U, Pt.locs, Pt.cells, Pt.slots] at X3 l3 y3 z3 st3 hQ3
    subst l3 y3 z3
    obtain ⟨rfl, N3q, hh3⟩ := hQ3
    have N3 := Fr.app N0 N3q
    refine own_go (T' := T3) (f' := (mkF m 28 #[.val (.ref y0), .val (.int y1), .val (.int y2), .val (.int y3), .val (.int (1 : Int32))] [(.int (1 : Int32))])) (fun _ k => st3.trans (XS.iload X3.here hx rfl (hb hby d1_18) rfl (XS.icmpNo X3.here hx rfl (hb hby d1_20) rfl (teq (own_b2i_1 (hq.mpr hc1))).2 (XS.iconst X3.here hx rfl (hb hby d1_23) (XS.goto X3.here hx rfl (pc0 := 24) (pc' := 28) rfl (hb hby d1_24) (by decide) (by decide) k))))) ?_
    refine own_ret X3 (v := some (.int (1 : Int32))) (fun h => by rw [Bd.returns] at h; cases h) Bd.notSynchronized (fun fs hr => retN X3 hx (t := .boolean) Bd.returns (by simp) (hb hby d1_28) hr) ?_ (by decide) (by decide)
    show Q1_1 Z y0 y1 y2 y3 h0 n0 _ T3.heap _
    exact ⟨rfl, N3, hh3⟩
theorem ef_rm1_2 (m : MethodId) (y0 : Addr) (y1 : Int32) (y2 : Int32) (y3 : Int32) : entryFrame m #[(.ref y0), (.int y1), (.int y2), (.int y3)] 5 = mkF m 0 #[.val (.ref y0), .val (.int y1), .val (.int y2), .val (.int y3), .unset] [] := by first | (simp [entryFrame, mkF, argsToLocals, Value.category]; done) | rfl
def Q1_2 (Z : State) (y0 : Addr) (y1 : Int32) (y2 : Int32) (y3 : Int32) (h0 : Heap) (n0 : Nat) (v : Option Value) (h : Heap) (L : List Loc) : Prop := v = some (.int (1 : Int32)) ∧ Fr n0 L ∧ h = h0
set_option maxRecDepth 65536 in
set_option maxHeartbeats 40000000 in
theorem rm1_2 (l : Launch) (Z : State) (a0 : Array Value) (hw : ∀ d ∈ tables_1, d.before a0 Z = true) (ws : List Jvm.Cond) (y0 : Addr) (y1 : Int32) (y2 : Int32) (y3 : Int32) (h0 : Heap) (n0 : Nat) (Z0 : n0 ≤ h0.size) (F_o : Fld Z h0 y0 "java/lang/Enum" "ordinal" "I" (.int (2 : Int32))) (E_y0 : Exa Z h0 y0 "com/example/reckonmill/reckonmill/lib/model/tree/Comparison") (hq : (y3 < (0 : Int32)) ↔ ¬ ((y1 &&& y2) = (0 : Int32))) :
    MetFree l mn3 (head1 (Jvm.Cond.code mn3 method_3_code 5 (some .boolean) :: ws) ({ frames := 2, cells := 0, slots := 0, locals := 26 } : Room)) (fun a U => a = #[(.ref y0), (.int y1), (.int y2), (.int y3)] ∧ Z.Warmed39 U.vm ∧ U.heap = h0) (fun _ _ _ _ _ => True) (fun _ U o U' => ∃ v L, o = .returned v ∧ Q1_2 Z y0 y1 y2 y3 h0 n0 v U'.heap L ∧ FrameEnd U o U' L ({ frames := 2, cells := 0, slots := 0, locals := 26 } : Room).cells ({ frames := 2, cells := 0, slots := 0, locals := 26 } : Room).slots) := by
  refine MetFree.of_bodySF (plainFor_of_name pn_1) hisR ?_
  intro p e s m args below meth c s₁ Bd hml0 hP hK
  obtain ⟨rfl, hZ, hh⟩ := hP
  have hx := Bd.exec
  have hby := Bd.bytes
  have hml : c.maxLocals = 5 := hml0
  have hown : s.vm.findClass "com/example/reckonmill/reckonmill/lib/model/tree/ComparisonHolds5PinLaw" = some m.cls := findClass_of_methodNamed Bd.named
  have hnm := (name_of_methodNamed Bd.named Bd.method).1
  have X0 : Stand p l e ({ frames := 2, cells := 0, slots := 0, locals := 26 } : Room) s m #[(.ref y0), (.int y1), (.int y2), (.int y3)] below meth c s₁ [] 0 0 := Stand.of_body Bd
  have e0 : s₁.heap = h0 := by rw [← hh, Bd.state]; rfl
  have N0 := Fr.nil n0
  show own_Ends p e below s (Q1_2 Z y0 y1 y2 y3 h0 n0) _ _ s₁ _
  rw [ef_rm1_2 m y0 y1 y2 y3]
  refine own_go (T' := s₁) (f' := (mkF m 3 #[.val (.ref y0), .val (.int y1), .val (.int y2), .val (.int y3), .unset] [(.int (y1 &&& y2))])) (fun _ k => XS.iloadN X0.here hx rfl (hb hby d1_0) rfl (XS.iloadN X0.here hx rfl (hb hby d1_1) rfl (XS.iand X0.here hx rfl (hb hby d1_2) rfl k))) ?_
  by_cases hc1 : (y1 &&& y2) = (0 : Int32)
  · refine own_go (T' := s₁) (f' := (mkF m 15 #[.val (.ref y0), .val (.int y1), .val (.int y2), .val (.int y3), .val (.int (0 : Int32))] [(.int y3), (.ref y0)])) (fun _ k => XS.ifYes X0.here hx rfl (pc0 := 3) (pc' := 10) rfl (hb hby d1_3) rfl ((if0 _ _).trans (teq hc1).1) (by decide) (by decide) (XS.iconst X0.here hx rfl (hb hby d1_10) (XS.istore X0.here hx rfl (hb hby d1_11) rfl (l' := #[.val (.ref y0), .val (.int y1), .val (.int y2), .val (.int y3), .val (.int (0 : Int32))]) rfl (XS.aloadN X0.here hx rfl (hb hby d1_13) rfl rfl (XS.iloadN X0.here hx rfl (hb hby d1_14) rfl k))))) ?_
    obtain ⟨cq2, kq2, q2a, q2b, q2c⟩ := isOf hZ e0 E_y0
    obtain ⟨_, _, ⟨T2, L2, k2, n2⟩, -, X2, ⟨Lc2, hQ2, l2, y2, z2⟩, st2⟩ := X0.virtualBack hx (y := mn2) (z := mn2) hown (mvT hZ (ow7 hw)) (mvT hZ (ow8 hw)) (notFace_of_selects (args := #[]) (mvT hZ (ow10 hw))) (mvT hZ (ow10 hw)) (mvT hZ (ow9 hw)) (by decide) (backOf (W := 0) (rm2_2 l Z a0 hw [] y0 y3 h0 n0 Z0 F_o E_y0) hZ (ow11 hw) (ow1 hw) (by decide) (by decide)) q2a q2c (g := (mkF m 15 #[.val (.ref y0), .val (.int y1), .val (.int y2), .val (.int y3), .val (.int (0 : Int32))] [(.int y3), (.ref y0)])) rfl (by rw [hml]; rfl) (Steps.refl _) (argsL := [(.int y3)]) (rest := []) (lenOf pd1 rfl) rfl (by show 2 * 0 + _ ≤ _; exact Nat.le_of_eq rfl) (hb hby d1_15) (fun _ _ => ⟨rfl, e0, (by decide : 0 + 0 ≤ _), (by decide : 0 + 0 ≤ _)⟩)
    dsimp only [Pt.U, Pt.locs, Pt.cells, Pt.slots] at X2 l2 y2 z2 st2 hQ2
    subst l2 y2 z2
    obtain ⟨rfl, N2q, hh2⟩ := hQ2
    have N2 := Fr.app N0 N2q
    refine own_go (T' := T2) (f' := (mkF m 28 #[.val (.ref y0), .val (.int y1), .val (.int y2), .val (.int y3), .val (.int (0 : Int32))] [(.int (1 : Int32))])) (fun _ k => st2.trans (XS.iload X2.here hx rfl (hb hby d1_18) rfl (XS.icmpNo X2.here hx rfl (hb hby d1_20) rfl (teq (own_b2i_f (fun q => (hq.mp q) hc1))).2 (XS.iconst X2.here hx rfl (hb hby d1_23) (XS.goto X2.here hx rfl (pc0 := 24) (pc' := 28) rfl (hb hby d1_24) (by decide) (by decide) k))))) ?_
    refine own_ret X2 (v := some (.int (1 : Int32))) (fun h => by rw [Bd.returns] at h; cases h) Bd.notSynchronized (fun fs hr => retN X2 hx (t := .boolean) Bd.returns (by simp) (hb hby d1_28) hr) ?_ (by decide) (by decide)
    show Q1_2 Z y0 y1 y2 y3 h0 n0 _ T2.heap _
    exact ⟨rfl, N2, hh2⟩
  · refine own_go (T' := s₁) (f' := (mkF m 15 #[.val (.ref y0), .val (.int y1), .val (.int y2), .val (.int y3), .val (.int (1 : Int32))] [(.int y3), (.ref y0)])) (fun _ k => XS.ifNo X0.here hx rfl (hb hby d1_3) rfl ((if0 _ _).trans (feq hc1).1) (XS.iconst X0.here hx rfl (hb hby d1_6) (XS.goto X0.here hx rfl (pc0 := 7) (pc' := 11) rfl (hb hby d1_7) (by decide) (by decide) (XS.istore X0.here hx rfl (hb hby d1_11) rfl (l' := #[.val (.ref y0), .val (.int y1), .val (.int y2), .val (.int y3), .val (.int (1 : Int32))]) rfl (XS.aloadN X0.here hx rfl (hb hby d1_13) rfl rfl (XS.iloadN X0.here hx rfl (hb hby d1_14) rfl k)))))) ?_
    obtain ⟨cq3, kq3, q3a, q3b, q3c⟩ := isOf hZ e0 E_y0
    obtain ⟨_, _, ⟨T3, L3, k3, n3⟩, -, X3, ⟨Lc3, hQ3, l3, y3, z3⟩, st3⟩ := X0.virtualBack hx (y := mn2) (z := mn2) hown (mvT hZ (ow7 hw)) (mvT hZ (ow8 hw)) (notFace_of_selects (args := #[]) (mvT hZ (ow10 hw))) (mvT hZ (ow10 hw)) (mvT hZ (ow9 hw)) (by decide) (backOf (W := 0) (rm2_2 l Z a0 hw [] y0 y3 h0 n0 Z0 F_o E_y0) hZ (ow11 hw) (ow1 hw) (by decide) (by decide)) q3a q3c (g := (mkF m 15 #[.val (.ref y0), .val (.int y1), .val (.int y2), .val (.int y3), .val (.int (1 : Int32))] [(.int y3), (.ref y0)])) rfl (by rw [hml]; rfl) (Steps.refl _) (argsL := [(.int y3)]) (rest := []) (lenOf pd1 rfl) rfl (by show 2 * 0 + _ ≤ _; exact Nat.le_of_eq rfl) (hb hby d1_15) (fun _ _ => ⟨rfl, e0, (by decide : 0 + 0 ≤ _), (by decide : 0 + 0 ≤ _)⟩)
    dsimp only [Pt.U, Pt.locs, Pt.cells, Pt.slots] at X3 l3 y3 z3 st3 hQ3
    subst l3 y3 z3
    obtain ⟨rfl, N3q, hh3⟩ := hQ3
    have N3 := Fr.app N0 N3q
    refine own_go (T' := T3) (f' := (mkF m 28 #[.val (.ref y0), .val (.int y1), .val (.int y2), .val (.int y3), .val (.int (1 : Int32))] [(.int (1 : Int32))])) (fun _ k => st3.trans (XS.iload X3.here hx rfl (hb hby d1_18) rfl (XS.icmpNo X3.here hx rfl (hb hby d1_20) rfl (teq (own_b2i_1 (hq.mpr hc1))).2 (XS.iconst X3.here hx rfl (hb hby d1_23) (XS.goto X3.here hx rfl (pc0 := 24) (pc' := 28) rfl (hb hby d1_24) (by decide) (by decide) k))))) ?_
    refine own_ret X3 (v := some (.int (1 : Int32))) (fun h => by rw [Bd.returns] at h; cases h) Bd.notSynchronized (fun fs hr => retN X3 hx (t := .boolean) Bd.returns (by simp) (hb hby d1_28) hr) ?_ (by decide) (by decide)
    show Q1_2 Z y0 y1 y2 y3 h0 n0 _ T3.heap _
    exact ⟨rfl, N3, hh3⟩
theorem ef_rm1_3 (m : MethodId) (y0 : Addr) (y1 : Int32) (y2 : Int32) (y3 : Int32) : entryFrame m #[(.ref y0), (.int y1), (.int y2), (.int y3)] 5 = mkF m 0 #[.val (.ref y0), .val (.int y1), .val (.int y2), .val (.int y3), .unset] [] := by first | (simp [entryFrame, mkF, argsToLocals, Value.category]; done) | rfl
def Q1_3 (Z : State) (y0 : Addr) (y1 : Int32) (y2 : Int32) (y3 : Int32) (h0 : Heap) (n0 : Nat) (v : Option Value) (h : Heap) (L : List Loc) : Prop := v = some (.int (1 : Int32)) ∧ Fr n0 L ∧ h = h0
set_option maxRecDepth 65536 in
set_option maxHeartbeats 40000000 in
theorem rm1_3 (l : Launch) (Z : State) (a0 : Array Value) (hw : ∀ d ∈ tables_1, d.before a0 Z = true) (ws : List Jvm.Cond) (y0 : Addr) (y1 : Int32) (y2 : Int32) (y3 : Int32) (h0 : Heap) (n0 : Nat) (Z0 : n0 ≤ h0.size) (F_o : Fld Z h0 y0 "java/lang/Enum" "ordinal" "I" (.int (3 : Int32))) (E_y0 : Exa Z h0 y0 "com/example/reckonmill/reckonmill/lib/model/tree/Comparison") (hq : (¬ ((0 : Int32) < y3)) ↔ ¬ ((y1 &&& y2) = (0 : Int32))) :
    MetFree l mn3 (head1 (Jvm.Cond.code mn3 method_3_code 5 (some .boolean) :: ws) ({ frames := 2, cells := 0, slots := 0, locals := 26 } : Room)) (fun a U => a = #[(.ref y0), (.int y1), (.int y2), (.int y3)] ∧ Z.Warmed39 U.vm ∧ U.heap = h0) (fun _ _ _ _ _ => True) (fun _ U o U' => ∃ v L, o = .returned v ∧ Q1_3 Z y0 y1 y2 y3 h0 n0 v U'.heap L ∧ FrameEnd U o U' L ({ frames := 2, cells := 0, slots := 0, locals := 26 } : Room).cells ({ frames := 2, cells := 0, slots := 0, locals := 26 } : Room).slots) := by
  refine MetFree.of_bodySF (plainFor_of_name pn_1) hisR ?_
  intro p e s m args below meth c s₁ Bd hml0 hP hK
  obtain ⟨rfl, hZ, hh⟩ := hP
  have hx := Bd.exec
  have hby := Bd.bytes
  have hml : c.maxLocals = 5 := hml0
  have hown : s.vm.findClass "com/example/reckonmill/reckonmill/lib/model/tree/ComparisonHolds5PinLaw" = some m.cls := findClass_of_methodNamed Bd.named
  have hnm := (name_of_methodNamed Bd.named Bd.method).1
  have X0 : Stand p l e ({ frames := 2, cells := 0, slots := 0, locals := 26 } : Room) s m #[(.ref y0), (.int y1), (.int y2), (.int y3)] below meth c s₁ [] 0 0 := Stand.of_body Bd
  have e0 : s₁.heap = h0 := by rw [← hh, Bd.state]; rfl
  have N0 := Fr.nil n0
  show own_Ends p e below s (Q1_3 Z y0 y1 y2 y3 h0 n0) _ _ s₁ _
  rw [ef_rm1_3 m y0 y1 y2 y3]
  refine own_go (T' := s₁) (f' := (mkF m 3 #[.val (.ref y0), .val (.int y1), .val (.int y2), .val (.int y3), .unset] [(.int (y1 &&& y2))])) (fun _ k => XS.iloadN X0.here hx rfl (hb hby d1_0) rfl (XS.iloadN X0.here hx rfl (hb hby d1_1) rfl (XS.iand X0.here hx rfl (hb hby d1_2) rfl k))) ?_
  by_cases hc1 : (y1 &&& y2) = (0 : Int32)
  · refine own_go (T' := s₁) (f' := (mkF m 15 #[.val (.ref y0), .val (.int y1), .val (.int y2), .val (.int y3), .val (.int (0 : Int32))] [(.int y3), (.ref y0)])) (fun _ k => XS.ifYes X0.here hx rfl (pc0 := 3) (pc' := 10) rfl (hb hby d1_3) rfl ((if0 _ _).trans (teq hc1).1) (by decide) (by decide) (XS.iconst X0.here hx rfl (hb hby d1_10) (XS.istore X0.here hx rfl (hb hby d1_11) rfl (l' := #[.val (.ref y0), .val (.int y1), .val (.int y2), .val (.int y3), .val (.int (0 : Int32))]) rfl (XS.aloadN X0.here hx rfl (hb hby d1_13) rfl rfl (XS.iloadN X0.here hx rfl (hb hby d1_14) rfl k))))) ?_
    obtain ⟨cq2, kq2, q2a, q2b, q2c⟩ := isOf hZ e0 E_y0
    obtain ⟨_, _, ⟨T2, L2, k2, n2⟩, -, X2, ⟨Lc2, hQ2, l2, y2, z2⟩, st2⟩ := X0.virtualBack hx (y := mn2) (z := mn2) hown (mvT hZ (ow7 hw)) (mvT hZ (ow8 hw)) (notFace_of_selects (args := #[]) (mvT hZ (ow10 hw))) (mvT hZ (ow10 hw)) (mvT hZ (ow9 hw)) (by decide) (backOf (W := 0) (rm2_3 l Z a0 hw [] y0 y3 h0 n0 Z0 F_o E_y0) hZ (ow11 hw) (ow1 hw) (by decide) (by decide)) q2a q2c (g := (mkF m 15 #[.val (.ref y0), .val (.int y1), .val (.int y2), .val (.int y3), .val (.int (0 : Int32))] [(.int y3), (.ref y0)])) rfl (by rw [hml]; rfl) (Steps.refl _) (argsL := [(.int y3)]) (rest := []) (lenOf pd1 rfl) rfl (by show 2 * 0 + _ ≤ _; exact Nat.le_of_eq rfl) (hb hby d1_15) (fun _ _ => ⟨rfl, e0, (by decide : 0 + 0 ≤ _), (by decide : 0 + 0 ≤ _)⟩)
    dsimp only [Pt.U, Pt.locs, Pt.cells, Pt.slots] at X2 l2 y2 z2 st2 hQ2
    subst l2 y2 z2
    obtain ⟨rfl, N2q, hh2⟩ := hQ2
    have N2 := Fr.app N0 N2q
    refine own_go (T' := T2) (f' := (mkF m 28 #[.val (.ref y0), .val (.int y1), .val (.int y2), .val (.int y3), .val (.int (0 : Int32))] [(.int (1 : Int32))])) (fun _ k => st2.trans (XS.iload X2.here hx rfl (hb hby d1_18) rfl (XS.icmpNo X2.here hx rfl (hb hby d1_20) rfl (teq (own_b2i_f (fun q => (hq.mp q) hc1))).2 (XS.iconst X2.here hx rfl (hb hby d1_23) (XS.goto X2.here hx rfl (pc0 := 24) (pc' := 28) rfl (hb hby d1_24) (by decide) (by decide) k))))) ?_
    refine own_ret X2 (v := some (.int (1 : Int32))) (fun h => by rw [Bd.returns] at h; cases h) Bd.notSynchronized (fun fs hr => retN X2 hx (t := .boolean) Bd.returns (by simp) (hb hby d1_28) hr) ?_ (by decide) (by decide)
    show Q1_3 Z y0 y1 y2 y3 h0 n0 _ T2.heap _
    exact ⟨rfl, N2, hh2⟩
  · refine own_go (T' := s₁) (f' := (mkF m 15 #[.val (.ref y0), .val (.int y1), .val (.int y2), .val (.int y3), .val (.int (1 : Int32))] [(.int y3), (.ref y0)])) (fun _ k => XS.ifNo X0.here hx rfl (hb hby d1_3) rfl ((if0 _ _).trans (feq hc1).1) (XS.iconst X0.here hx rfl (hb hby d1_6) (XS.goto X0.here hx rfl (pc0 := 7) (pc' := 11) rfl (hb hby d1_7) (by decide) (by decide) (XS.istore X0.here hx rfl (hb hby d1_11) rfl (l' := #[.val (.ref y0), .val (.int y1), .val (.int y2), .val (.int y3), .val (.int (1 : Int32))]) rfl (XS.aloadN X0.here hx rfl (hb hby d1_13) rfl rfl (XS.iloadN X0.here hx rfl (hb hby d1_14) rfl k)))))) ?_
    obtain ⟨cq3, kq3, q3a, q3b, q3c⟩ := isOf hZ e0 E_y0
    obtain ⟨_, _, ⟨T3, L3, k3, n3⟩, -, X3, ⟨Lc3, hQ3, l3, y3, z3⟩, st3⟩ := X0.virtualBack hx (y := mn2) (z := mn2) hown (mvT hZ (ow7 hw)) (mvT hZ (ow8 hw)) (notFace_of_selects (args := #[]) (mvT hZ (ow10 hw))) (mvT hZ (ow10 hw)) (mvT hZ (ow9 hw)) (by decide) (backOf (W := 0) (rm2_3 l Z a0 hw [] y0 y3 h0 n0 Z0 F_o E_y0) hZ (ow11 hw) (ow1 hw) (by decide) (by decide)) q3a q3c (g := (mkF m 15 #[.val (.ref y0), .val (.int y1), .val (.int y2), .val (.int y3), .val (.int (1 : Int32))] [(.int y3), (.ref y0)])) rfl (by rw [hml]; rfl) (Steps.refl _) (argsL := [(.int y3)]) (rest := []) (lenOf pd1 rfl) rfl (by show 2 * 0 + _ ≤ _; exact Nat.le_of_eq rfl) (hb hby d1_15) (fun _ _ => ⟨rfl, e0, (by decide : 0 + 0 ≤ _), (by decide : 0 + 0 ≤ _)⟩)
    dsimp only [Pt.U, Pt.locs, Pt.cells, Pt.slots] at X3 l3 y3 z3 st3 hQ3
    subst l3 y3 z3
    obtain ⟨rfl, N3q, hh3⟩ := hQ3
    have N3 := Fr.app N0 N3q
    refine own_go (T' := T3) (f' := (mkF m 28 #[.val (.ref y0), .val (.int y1), .val (.int y2), .val (.int y3), .val (.int (1 : Int32))] [(.int (1 : Int32))])) (fun _ k => st3.trans (XS.iload X3.here hx rfl (hb hby d1_18) rfl (XS.icmpNo X3.here hx rfl (hb hby d1_20) rfl (teq (own_b2i_1 (hq.mpr hc1))).2 (XS.iconst X3.here hx rfl (hb hby d1_23) (XS.goto X3.here hx rfl (pc0 := 24) (pc' := 28) rfl (hb hby d1_24) (by decide) (by decide) k))))) ?_
    refine own_ret X3 (v := some (.int (1 : Int32))) (fun h => by rw [Bd.returns] at h; cases h) Bd.notSynchronized (fun fs hr => retN X3 hx (t := .boolean) Bd.returns (by simp) (hb hby d1_28) hr) ?_ (by decide) (by decide)
    show Q1_3 Z y0 y1 y2 y3 h0 n0 _ T3.heap _
    exact ⟨rfl, N3, hh3⟩
theorem ef_rm1_4 (m : MethodId) (y0 : Addr) (y1 : Int32) (y2 : Int32) (y3 : Int32) : entryFrame m #[(.ref y0), (.int y1), (.int y2), (.int y3)] 5 = mkF m 0 #[.val (.ref y0), .val (.int y1), .val (.int y2), .val (.int y3), .unset] [] := by first | (simp [entryFrame, mkF, argsToLocals, Value.category]; done) | rfl
def Q1_4 (Z : State) (y0 : Addr) (y1 : Int32) (y2 : Int32) (y3 : Int32) (h0 : Heap) (n0 : Nat) (v : Option Value) (h : Heap) (L : List Loc) : Prop := v = some (.int (1 : Int32)) ∧ Fr n0 L ∧ h = h0
set_option maxRecDepth 65536 in
set_option maxHeartbeats 40000000 in
theorem rm1_4 (l : Launch) (Z : State) (a0 : Array Value) (hw : ∀ d ∈ tables_1, d.before a0 Z = true) (ws : List Jvm.Cond) (y0 : Addr) (y1 : Int32) (y2 : Int32) (y3 : Int32) (h0 : Heap) (n0 : Nat) (Z0 : n0 ≤ h0.size) (F_o : Fld Z h0 y0 "java/lang/Enum" "ordinal" "I" (.int (4 : Int32))) (E_y0 : Exa Z h0 y0 "com/example/reckonmill/reckonmill/lib/model/tree/Comparison") (hq : ((0 : Int32) < y3) ↔ ¬ ((y1 &&& y2) = (0 : Int32))) :
    MetFree l mn3 (head1 (Jvm.Cond.code mn3 method_3_code 5 (some .boolean) :: ws) ({ frames := 2, cells := 0, slots := 0, locals := 26 } : Room)) (fun a U => a = #[(.ref y0), (.int y1), (.int y2), (.int y3)] ∧ Z.Warmed39 U.vm ∧ U.heap = h0) (fun _ _ _ _ _ => True) (fun _ U o U' => ∃ v L, o = .returned v ∧ Q1_4 Z y0 y1 y2 y3 h0 n0 v U'.heap L ∧ FrameEnd U o U' L ({ frames := 2, cells := 0, slots := 0, locals := 26 } : Room).cells ({ frames := 2, cells := 0, slots := 0, locals := 26 } : Room).slots) := by
  refine MetFree.of_bodySF (plainFor_of_name pn_1) hisR ?_
  intro p e s m args below meth c s₁ Bd hml0 hP hK
  obtain ⟨rfl, hZ, hh⟩ := hP
  have hx := Bd.exec
  have hby := Bd.bytes
  have hml : c.maxLocals = 5 := hml0
  have hown : s.vm.findClass "com/example/reckonmill/reckonmill/lib/model/tree/ComparisonHolds5PinLaw" = some m.cls := findClass_of_methodNamed Bd.named
  have hnm := (name_of_methodNamed Bd.named Bd.method).1
  have X0 : Stand p l e ({ frames := 2, cells := 0, slots := 0, locals := 26 } : Room) s m #[(.ref y0), (.int y1), (.int y2), (.int y3)] below meth c s₁ [] 0 0 := Stand.of_body Bd
  have e0 : s₁.heap = h0 := by rw [← hh, Bd.state]; rfl
  have N0 := Fr.nil n0
  show own_Ends p e below s (Q1_4 Z y0 y1 y2 y3 h0 n0) _ _ s₁ _
  rw [ef_rm1_4 m y0 y1 y2 y3]
  refine own_go (T' := s₁) (f' := (mkF m 3 #[.val (.ref y0), .val (.int y1), .val (.int y2), .val (.int y3), .unset] [(.int (y1 &&& y2))])) (fun _ k => XS.iloadN X0.here hx rfl (hb hby d1_0) rfl (XS.iloadN X0.here hx rfl (hb hby d1_1) rfl (XS.iand X0.here hx rfl (hb hby d1_2) rfl k))) ?_
  by_cases hc1 : (y1 &&& y2) = (0 : Int32)
  · refine own_go (T' := s₁) (f' := (mkF m 15 #[.val (.ref y0), .val (.int y1), .val (.int y2), .val (.int y3), .val (.int (0 : Int32))] [(.int y3), (.ref y0)])) (fun _ k => XS.ifYes X0.here hx rfl (pc0 := 3) (pc' := 10) rfl (hb hby d1_3) rfl ((if0 _ _).trans (teq hc1).1) (by decide) (by decide) (XS.iconst X0.here hx rfl (hb hby d1_10) (XS.istore X0.here hx rfl (hb hby d1_11) rfl (l' := #[.val (.ref y0), .val (.int y1), .val (.int y2), .val (.int y3), .val (.int (0 : Int32))]) rfl (XS.aloadN X0.here hx rfl (hb hby d1_13) rfl rfl (XS.iloadN X0.here hx rfl (hb hby d1_14) rfl k))))) ?_
    obtain ⟨cq2, kq2, q2a, q2b, q2c⟩ := isOf hZ e0 E_y0
    obtain ⟨_, _, ⟨T2, L2, k2, n2⟩, -, X2, ⟨Lc2, hQ2, l2, y2, z2⟩, st2⟩ := X0.virtualBack hx (y := mn2) (z := mn2) hown (mvT hZ (ow7 hw)) (mvT hZ (ow8 hw)) (notFace_of_selects (args := #[]) (mvT hZ (ow10 hw))) (mvT hZ (ow10 hw)) (mvT hZ (ow9 hw)) (by decide) (backOf (W := 0) (rm2_4 l Z a0 hw [] y0 y3 h0 n0 Z0 F_o E_y0) hZ (ow11 hw) (ow1 hw) (by decide) (by decide)) q2a q2c (g := (mkF m 15 #[.val (.ref y0), .val (.int y1), .val (.int y2), .val (.int y3), .val (.int (0 : Int32))] [(.int y3), (.ref y0)])) rfl (by rw [hml]; rfl) (Steps.refl _) (argsL := [(.int y3)]) (rest := []) (lenOf pd1 rfl) rfl (by show 2 * 0 + _ ≤ _; exact Nat.le_of_eq rfl) (hb hby d1_15) (fun _ _ => ⟨rfl, e0, (by decide : 0 + 0 ≤ _), (by decide : 0 + 0 ≤ _)⟩)
    dsimp only [Pt.U, Pt.locs, Pt.cells, Pt.slots] at X2 l2 y2 z2 st2 hQ2
    subst l2 y2 z2
    obtain ⟨rfl, N2q, hh2⟩ := hQ2
    have N2 := Fr.app N0 N2q
    refine own_go (T' := T2) (f' := (mkF m 28 #[.val (.ref y0), .val (.int y1), .val (.int y2), .val (.int y3), .val (.int (0 : Int32))] [(.int (1 : Int32))])) (fun _ k => st2.trans (XS.iload X2.here hx rfl (hb hby d1_18) rfl (XS.icmpNo X2.here hx rfl (hb hby d1_20) rfl (teq (own_b2i_f (fun q => (hq.mp q) hc1))).2 (XS.iconst X2.here hx rfl (hb hby d1_23) (XS.goto X2.here hx rfl (pc0 := 24) (pc' := 28) rfl (hb hby d1_24) (by decide) (by decide) k))))) ?_
    refine own_ret X2 (v := some (.int (1 : Int32))) (fun h => by rw [Bd.returns] at h; cases h) Bd.notSynchronized (fun fs hr => retN X2 hx (t := .boolean) Bd.returns (by simp) (hb hby d1_28) hr) ?_ (by decide) (by decide)
    show Q1_4 Z y0 y1 y2 y3 h0 n0 _ T2.heap _
    exact ⟨rfl, N2, hh2⟩
  · refine own_go (T' := s₁) (f' := (mkF m 15 #[.val (.ref y0), .val (.int y1), .val (.int y2), .val (.int y3), .val (.int (1 : Int32))] [(.int y3), (.ref y0)])) (fun _ k => XS.ifNo X0.here hx rfl (hb hby d1_3) rfl ((if0 _ _).trans (feq hc1).1) (XS.iconst X0.here hx rfl (hb hby d1_6) (XS.goto X0.here hx rfl (pc0 := 7) (pc' := 11) rfl (hb hby d1_7) (by decide) (by decide) (XS.istore X0.here hx rfl (hb hby d1_11) rfl (l' := #[.val (.ref y0), .val (.int y1), .val (.int y2), .val (.int y3), .val (.int (1 : Int32))]) rfl (XS.aloadN X0.here hx rfl (hb hby d1_13) rfl rfl (XS.iloadN X0.here hx rfl (hb hby d1_14) rfl k)))))) ?_
    obtain ⟨cq3, kq3, q3a, q3b, q3c⟩ := isOf hZ e0 E_y0
    obtain ⟨_, _, ⟨T3, L3, k3, n3⟩, -, X3, ⟨Lc3, hQ3, l3, y3, z3⟩, st3⟩ := X0.virtualBack hx (y := mn2) (z := mn2) hown (mvT hZ (ow7 hw)) (mvT hZ (ow8 hw)) (notFace_of_selects (args := #[]) (mvT hZ (ow10 hw))) (mvT hZ (ow10 hw)) (mvT hZ (ow9 hw)) (by decide) (backOf (W := 0) (rm2_4 l Z a0 hw [] y0 y3 h0 n0 Z0 F_o E_y0) hZ (ow11 hw) (ow1 hw) (by decide) (by decide)) q3a q3c (g := (mkF m 15 #[.val (.ref y0), .val (.int y1), .val (.int y2), .val (.int y3), .val (.int (1 : Int32))] [(.int y3), (.ref y0)])) rfl (by rw [hml]; rfl) (Steps.refl _) (argsL := [(.int y3)]) (rest := []) (lenOf pd1 rfl) rfl (by show 2 * 0 + _ ≤ _; exact Nat.le_of_eq rfl) (hb hby d1_15) (fun _ _ => ⟨rfl, e0, (by decide : 0 + 0 ≤ _), (by decide : 0 + 0 ≤ _)⟩)
    dsimp only [Pt.U, Pt.locs, Pt.cells, Pt.slots] at X3 l3 y3 z3 st3 hQ3
    subst l3 y3 z3
    obtain ⟨rfl, N3q, hh3⟩ := hQ3
    have N3 := Fr.app N0 N3q
    refine own_go (T' := T3) (f' := (mkF m 28 #[.val (.ref y0), .val (.int y1), .val (.int y2), .val (.int y3), .val (.int (1 : Int32))] [(.int (1 : Int32))])) (fun _ k => st3.trans (XS.iload X3.here hx rfl (hb hby d1_18) rfl (XS.icmpNo X3.here hx rfl (hb hby d1_20) rfl (teq (own_b2i_1 (hq.mpr hc1))).2 (XS.iconst X3.here hx rfl (hb hby d1_23) (XS.goto X3.here hx rfl (pc0 := 24) (pc' := 28) rfl (hb hby d1_24) (by decide) (by decide) k))))) ?_
    refine own_ret X3 (v := some (.int (1 : Int32))) (fun h => by rw [Bd.returns] at h; cases h) Bd.notSynchronized (fun fs hr => retN X3 hx (t := .boolean) Bd.returns (by simp) (hb hby d1_28) hr) ?_ (by decide) (by decide)
    show Q1_4 Z y0 y1 y2 y3 h0 n0 _ T3.heap _
    exact ⟨rfl, N3, hh3⟩
theorem ef_rm1_5 (m : MethodId) (y0 : Addr) (y1 : Int32) (y2 : Int32) (y3 : Int32) : entryFrame m #[(.ref y0), (.int y1), (.int y2), (.int y3)] 5 = mkF m 0 #[.val (.ref y0), .val (.int y1), .val (.int y2), .val (.int y3), .unset] [] := by first | (simp [entryFrame, mkF, argsToLocals, Value.category]; done) | rfl
def Q1_5 (Z : State) (y0 : Addr) (y1 : Int32) (y2 : Int32) (y3 : Int32) (h0 : Heap) (n0 : Nat) (v : Option Value) (h : Heap) (L : List Loc) : Prop := v = some (.int (1 : Int32)) ∧ Fr n0 L ∧ h = h0
set_option maxRecDepth 65536 in
set_option maxHeartbeats 40000000 in
theorem rm1_5 (l : Launch) (Z : State) (a0 : Array Value) (hw : ∀ d ∈ tables_1, d.before a0 Z = true) (ws : List Jvm.Cond) (y0 : Addr) (y1 : Int32) (y2 : Int32) (y3 : Int32) (h0 : Heap) (n0 : Nat) (Z0 : n0 ≤ h0.size) (F_o : Fld Z h0 y0 "java/lang/Enum" "ordinal" "I" (.int (5 : Int32))) (E_y0 : Exa Z h0 y0 "com/example/reckonmill/reckonmill/lib/model/tree/Comparison") (hq : (¬ (y3 < (0 : Int32))) ↔ ¬ ((y1 &&& y2) = (0 : Int32))) :
    MetFree l mn3 (head1 (Jvm.Cond.code mn3 method_3_code 5 (some .boolean) :: ws) ({ frames := 2, cells := 0, slots := 0, locals := 26 } : Room)) (fun a U => a = #[(.ref y0), (.int y1), (.int y2), (.int y3)] ∧ Z.Warmed39 U.vm ∧ U.heap = h0) (fun _ _ _ _ _ => True) (fun _ U o U' => ∃ v L, o = .returned v ∧ Q1_5 Z y0 y1 y2 y3 h0 n0 v U'.heap L ∧ FrameEnd U o U' L ({ frames := 2, cells := 0, slots := 0, locals := 26 } : Room).cells ({ frames := 2, cells := 0, slots := 0, locals := 26 } : Room).slots) := by
  refine MetFree.of_bodySF (plainFor_of_name pn_1) hisR ?_
  intro p e s m args below meth c s₁ Bd hml0 hP hK
  obtain ⟨rfl, hZ, hh⟩ := hP
  have hx := Bd.exec
  have hby := Bd.bytes
  have hml : c.maxLocals = 5 := hml0
  have hown : s.vm.findClass "com/example/reckonmill/reckonmill/lib/model/tree/ComparisonHolds5PinLaw" = some m.cls := findClass_of_methodNamed Bd.named
  have hnm := (name_of_methodNamed Bd.named Bd.method).1
  have X0 : Stand p l e ({ frames := 2, cells := 0, slots := 0, locals := 26 } : Room) s m #[(.ref y0), (.int y1), (.int y2), (.int y3)] below meth c s₁ [] 0 0 := Stand.of_body Bd
  have e0 : s₁.heap = h0 := by rw [← hh, Bd.state]; rfl
  have N0 := Fr.nil n0
  show own_Ends p e below s (Q1_5 Z y0 y1 y2 y3 h0 n0) _ _ s₁ _
  rw [ef_rm1_5 m y0 y1 y2 y3]
  refine own_go (T' := s₁) (f' := (mkF m 3 #[.val (.ref y0), .val (.int y1), .val (.int y2), .val (.int y3), .unset] [(.int (y1 &&& y2))])) (fun _ k => XS.iloadN X0.here hx rfl (hb hby d1_0) rfl (XS.iloadN X0.here hx rfl (hb hby d1_1) rfl (XS.iand X0.here hx rfl (hb hby d1_2) rfl k))) ?_
  by_cases hc1 : (y1 &&& y2) = (0 : Int32)
  · refine own_go (T' := s₁) (f' := (mkF m 15 #[.val (.ref y0), .val (.int y1), .val (.int y2), .val (.int y3), .val (.int (0 : Int32))] [(.int y3), (.ref y0)])) (fun _ k => XS.ifYes X0.here hx rfl (pc0 := 3) (pc' := 10) rfl (hb hby d1_3) rfl ((if0 _ _).trans (teq hc1).1) (by decide) (by decide) (XS.iconst X0.here hx rfl (hb hby d1_10) (XS.istore X0.here hx rfl (hb hby d1_11) rfl (l' := #[.val (.ref y0), .val (.int y1), .val (.int y2), .val (.int y3), .val (.int (0 : Int32))]) rfl (XS.aloadN X0.here hx rfl (hb hby d1_13) rfl rfl (XS.iloadN X0.here hx rfl (hb hby d1_14) rfl k))))) ?_
    obtain ⟨cq2, kq2, q2a, q2b, q2c⟩ := isOf hZ e0 E_y0
    obtain ⟨_, _, ⟨T2, L2, k2, n2⟩, -, X2, ⟨Lc2, hQ2, l2, y2, z2⟩, st2⟩ := X0.virtualBack hx (y := mn2) (z := mn2) hown (mvT hZ (ow7 hw)) (mvT hZ (ow8 hw)) (notFace_of_selects (args := #[]) (mvT hZ (ow10 hw))) (mvT hZ (ow10 hw)) (mvT hZ (ow9 hw)) (by decide) (backOf (W := 0) (rm2_5 l Z a0 hw [] y0 y3 h0 n0 Z0 F_o E_y0) hZ (ow11 hw) (ow1 hw) (by decide) (by decide)) q2a q2c (g := (mkF m 15 #[.val (.ref y0), .val (.int y1), .val (.int y2), .val (.int y3), .val (.int (0 : Int32))] [(.int y3), (.ref y0)])) rfl (by rw [hml]; rfl) (Steps.refl _) (argsL := [(.int y3)]) (rest := []) (lenOf pd1 rfl) rfl (by show 2 * 0 + _ ≤ _; exact Nat.le_of_eq rfl) (hb hby d1_15) (fun _ _ => ⟨rfl, e0, (by decide : 0 + 0 ≤ _), (by decide : 0 + 0 ≤ _)⟩)
    dsimp only [Pt.U, Pt.locs, Pt.cells, Pt.slots] at X2 l2 y2 z2 st2 hQ2
    subst l2 y2 z2
    obtain ⟨rfl, N2q, hh2⟩ := hQ2
    have N2 := Fr.app N0 N2q
    refine own_go (T' := T2) (f' := (mkF m 28 #[.val (.ref y0), .val (.int y1), .val (.int y2), .val (.int y3), .val (.int (0 : Int32))] [(.int (1 : Int32))])) (fun _ k => st2.trans (XS.iload X2.here hx rfl (hb hby d1_18) rfl (XS.icmpNo X2.here hx rfl (hb hby d1_20) rfl (teq (own_b2i_f (fun q => (hq.mp q) hc1))).2 (XS.iconst X2.here hx rfl (hb hby d1_23) (XS.goto X2.here hx rfl (pc0 := 24) (pc' := 28) rfl (hb hby d1_24) (by decide) (by decide) k))))) ?_
    refine own_ret X2 (v := some (.int (1 : Int32))) (fun h => by rw [Bd.returns] at h; cases h) Bd.notSynchronized (fun fs hr => retN X2 hx (t := .boolean) Bd.returns (by simp) (hb hby d1_28) hr) ?_ (by decide) (by decide)
    show Q1_5 Z y0 y1 y2 y3 h0 n0 _ T2.heap _
    exact ⟨rfl, N2, hh2⟩
  · refine own_go (T' := s₁) (f' := (mkF m 15 #[.val (.ref y0), .val (.int y1), .val (.int y2), .val (.int y3), .val (.int (1 : Int32))] [(.int y3), (.ref y0)])) (fun _ k => XS.ifNo X0.here hx rfl (hb hby d1_3) rfl ((if0 _ _).trans (feq hc1).1) (XS.iconst X0.here hx rfl (hb hby d1_6) (XS.goto X0.here hx rfl (pc0 := 7) (pc' := 11) rfl (hb hby d1_7) (by decide) (by decide) (XS.istore X0.here hx rfl (hb hby d1_11) rfl (l' := #[.val (.ref y0), .val (.int y1), .val (.int y2), .val (.int y3), .val (.int (1 : Int32))]) rfl (XS.aloadN X0.here hx rfl (hb hby d1_13) rfl rfl (XS.iloadN X0.here hx rfl (hb hby d1_14) rfl k)))))) ?_
    obtain ⟨cq3, kq3, q3a, q3b, q3c⟩ := isOf hZ e0 E_y0
    obtain ⟨_, _, ⟨T3, L3, k3, n3⟩, -, X3, ⟨Lc3, hQ3, l3, y3, z3⟩, st3⟩ := X0.virtualBack hx (y := mn2) (z := mn2) hown (mvT hZ (ow7 hw)) (mvT hZ (ow8 hw)) (notFace_of_selects (args := #[]) (mvT hZ (ow10 hw))) (mvT hZ (ow10 hw)) (mvT hZ (ow9 hw)) (by decide) (backOf (W := 0) (rm2_5 l Z a0 hw [] y0 y3 h0 n0 Z0 F_o E_y0) hZ (ow11 hw) (ow1 hw) (by decide) (by decide)) q3a q3c (g := (mkF m 15 #[.val (.ref y0), .val (.int y1), .val (.int y2), .val (.int y3), .val (.int (1 : Int32))] [(.int y3), (.ref y0)])) rfl (by rw [hml]; rfl) (Steps.refl _) (argsL := [(.int y3)]) (rest := []) (lenOf pd1 rfl) rfl (by show 2 * 0 + _ ≤ _; exact Nat.le_of_eq rfl) (hb hby d1_15) (fun _ _ => ⟨rfl, e0, (by decide : 0 + 0 ≤ _), (by decide : 0 + 0 ≤ _)⟩)
    dsimp only [Pt.U, Pt.locs, Pt.cells, Pt.slots] at X3 l3 y3 z3 st3 hQ3
    subst l3 y3 z3
    obtain ⟨rfl, N3q, hh3⟩ := hQ3
    have N3 := Fr.app N0 N3q
    refine own_go (T' := T3) (f' := (mkF m 28 #[.val (.ref y0), .val (.int y1), .val (.int y2), .val (.int y3), .val (.int (1 : Int32))] [(.int (1 : Int32))])) (fun _ k => st3.trans (XS.iload X3.here hx rfl (hb hby d1_18) rfl (XS.icmpNo X3.here hx rfl (hb hby d1_20) rfl (teq (own_b2i_1 (hq.mpr hc1))).2 (XS.iconst X3.here hx rfl (hb hby d1_23) (XS.goto X3.here hx rfl (pc0 := 24) (pc' := 28) rfl (hb hby d1_24) (by decide) (by decide) k))))) ?_
    refine own_ret X3 (v := some (.int (1 : Int32))) (fun h => by rw [Bd.returns] at h; cases h) Bd.notSynchronized (fun fs hr => retN X3 hx (t := .boolean) Bd.returns (by simp) (hb hby d1_28) hr) ?_ (by decide) (by decide)
    show Q1_5 Z y0 y1 y2 y3 h0 n0 _ T3.heap _
    exact ⟨rfl, N3, hh3⟩
theorem pd2 : parseMethodDescriptor "(Lcom/example/reckonmill/reckonmill/lib/model/tree/Comparison;III)Z" = some ⟨[(.object "com/example/reckonmill/reckonmill/lib/model/tree/Comparison"), .int, .int, .int], some .boolean⟩ := by decide +kernel
theorem ef_rm0 (m : MethodId) (p0 : Int32) : entryFrame m #[(.int p0)] maxLocals = mkF m 0 #[.val (.int p0), .unset] [] := by first | (simp [entryFrame, mkF, argsToLocals, Value.category, maxLocals]; done) | rfl
def Q0 (Z : State) (p0 : Int32) (wEQUAL : Addr) (wNOT_EQUAL : Addr) (wLESS : Addr) (wLESS_OR_EQUAL : Addr) (wGREATER : Addr) (wGREATER_OR_EQUAL : Addr) (h0 : Heap) (n0 : Nat) (v : Option Value) (h : Heap) (L : List Loc) : Prop := v = some (.int (1 : Int32)) ∧ Fr n0 L
set_option maxRecDepth 65536 in
set_option maxHeartbeats 40000000 in
theorem rm0 (l : Launch) (Z : State) (a0 : Array Value) (hw : ∀ d ∈ tables_1, d.before a0 Z = true) (ws : List Jvm.Cond) (p0 : Int32) (wEQUAL : Addr) (wNOT_EQUAL : Addr) (wLESS : Addr) (wLESS_OR_EQUAL : Addr) (wGREATER : Addr) (wGREATER_OR_EQUAL : Addr) (h0 : Heap) (n0 : Nat) (Z0 : n0 ≤ h0.size) (S_EQUAL : Sta Z h0 "com/example/reckonmill/reckonmill/lib/model/tree/Comparison" "EQUAL" "Lcom/example/reckonmill/reckonmill/lib/model/tree/Comparison;" (.ref wEQUAL)) (S_NOT_EQUAL : Sta Z h0 "com/example/reckonmill/reckonmill/lib/model/tree/Comparison" "NOT_EQUAL" "Lcom/example/reckonmill/reckonmill/lib/model/tree/Comparison;" (.ref wNOT_EQUAL)) (S_LESS : Sta Z h0 "com/example/reckonmill/reckonmill/lib/model/tree/Comparison" "LESS" "Lcom/example/reckonmill/reckonmill/lib/model/tree/Comparison;" (.ref wLESS)) (S_LESS_OR_EQUAL : Sta Z h0 "com/example/reckonmill/reckonmill/lib/model/tree/Comparison" "LESS_OR_EQUAL" "Lcom/example/reckonmill/reckonmill/lib/model/tree/Comparison;" (.ref wLESS_OR_EQUAL)) (S_GREATER : Sta Z h0 "com/example/reckonmill/reckonmill/lib/model/tree/Comparison" "GREATER" "Lcom/example/reckonmill/reckonmill/lib/model/tree/Comparison;" (.ref wGREATER)) (S_GREATER_OR_EQUAL : Sta Z h0 "com/example/reckonmill/reckonmill/lib/model/tree/Comparison" "GREATER_OR_EQUAL" "Lcom/example/reckonmill/reckonmill/lib/model/tree/Comparison;" (.ref wGREATER_OR_EQUAL)) (E_EQUAL : Exa Z h0 wEQUAL "com/example/reckonmill/reckonmill/lib/model/tree/Comparison") (E_NOT_EQUAL : Exa Z h0 wNOT_EQUAL "com/example/reckonmill/reckonmill/lib/model/tree/Comparison") (E_LESS : Exa Z h0 wLESS "com/example/reckonmill/reckonmill/lib/model/tree/Comparison") (E_LESS_OR_EQUAL : Exa Z h0 wLESS_OR_EQUAL "com/example/reckonmill/reckonmill/lib/model/tree/Comparison") (E_GREATER : Exa Z h0 wGREATER "com/example/reckonmill/reckonmill/lib/model/tree/Comparison") (E_GREATER_OR_EQUAL : Exa Z h0 wGREATER_OR_EQUAL "com/example/reckonmill/reckonmill/lib/model/tree/Comparison") (O_EQUAL : Fld Z h0 wEQUAL "java/lang/Enum" "ordinal" "I" (.int (0 : Int32))) (O_NOT_EQUAL : Fld Z h0 wNOT_EQUAL "java/lang/Enum" "ordinal" "I" (.int (1 : Int32))) (O_LESS : Fld Z h0 wLESS "java/lang/Enum" "ordinal" "I" (.int (2 : Int32))) (O_LESS_OR_EQUAL : Fld Z h0 wLESS_OR_EQUAL "java/lang/Enum" "ordinal" "I" (.int (3 : Int32))) (O_GREATER : Fld Z h0 wGREATER "java/lang/Enum" "ordinal" "I" (.int (4 : Int32))) (O_GREATER_OR_EQUAL : Fld Z h0 wGREATER_OR_EQUAL "java/lang/Enum" "ordinal" "I" (.int (5 : Int32))) :
    MetFree l x (head1 (Jvm.Cond.code x code maxLocals ret :: ws) room_1) (fun a U => a = #[(.int p0)] ∧ Z.Warmed39 U.vm ∧ U.heap = h0) (fun _ _ _ _ _ => True) (fun _ U o U' => ∃ v L, o = .returned v ∧ Q0 Z p0 wEQUAL wNOT_EQUAL wLESS wLESS_OR_EQUAL wGREATER wGREATER_OR_EQUAL h0 n0 v U'.heap L ∧ FrameEnd U o U' L room_1.cells room_1.slots) := by
  refine MetFree.of_bodySF (plainFor_of_name pn_1) hisR ?_
  intro p e s m args below meth c s₁ Bd hml0 hP hK
  obtain ⟨rfl, hZ, hh⟩ := hP
  have hx := Bd.exec
  have hby := Bd.bytes
  have hml : c.maxLocals = 2 := hml0
  have hown : s.vm.findClass "com/example/reckonmill/reckonmill/lib/model/tree/ComparisonHolds5PinLaw" = some m.cls := findClass_of_methodNamed Bd.named
  have hnm := (name_of_methodNamed Bd.named Bd.method).1
  have X0 : Stand p l e room_1 s m #[(.int p0)] below meth c s₁ [] 0 0 := Stand.of_body Bd
  have e0 : s₁.heap = h0 := by rw [← hh, Bd.state]; rfl
  have N0 := Fr.nil n0
  show own_Ends p e below s (Q0 Z p0 wEQUAL wNOT_EQUAL wLESS wLESS_OR_EQUAL wGREATER wGREATER_OR_EQUAL h0 n0) _ _ s₁ _
  rw [ef_rm0 m p0]
  refine own_go (T' := s₁) (f' := (mkF m 1 #[.val (.int p0), .unset] [(.int p0)])) (fun _ k => XS.iloadN X0.here hx rfl (hb hby at_0) rfl k) ?_
  by_cases hc1 : p0 < (0 : Int32)
  · refine own_go (T' := s₁) (f' := (mkF m 18 #[.val (.int p0), .val (.int (4 : Int32))] [])) (fun _ k => XS.ifNo X0.here hx rfl (hb hby at_1) rfl ((if0 _ _).trans (tlt hc1).2.1) (XS.iconst X0.here hx rfl (hb hby at_4) (XS.goto X0.here hx rfl (pc0 := 5) (pc' := 17) rfl (hb hby at_5) (by decide) (by decide) (XS.istoreN X0.here hx rfl (hb hby at_17) rfl (l' := #[.val (.int p0), .val (.int (4 : Int32))]) rfl k)))) ?_
    obtain ⟨f_eq, f_gt⟩ := own_neg hc1
    obtain ⟨T2, X2, e2, st2⟩ := getS2 X0 hx hZ hown (host := "") (Or.inl (ow0 hw)) Via.refl e0 S_EQUAL (g := (mkF m 18 #[.val (.int p0), .val (.int (4 : Int32))] [])) rfl (hb hby at_18)
    refine own_go (T' := T2) (f' := (mkF m 24 #[.val (.int p0), .val (.int (4 : Int32))] [(.int p0), (.int (4 : Int32)), (.int (2 : Int32)), (.ref wEQUAL)])) (fun _ k => st2 _ (XS.iconst X2.here hx rfl (hb hby at_21) (XS.iloadN X2.here hx rfl (hb hby at_22) rfl (XS.iloadN X2.here hx rfl (hb hby at_23) rfl k)))) ?_
    obtain ⟨_, _, ⟨T3, L3, k3, n3⟩, -, X3, ⟨Lc3, hQ3, l3, y3, z3⟩, st3⟩ := Jvm.LawKit.callS X2 hx (y := mn3) hown (mvT hZ (ow3 hw)) (mvT hZ (ow4 hw)) (mvT hZ (ow5 hw)) (mvT hZ (ow6 hw)) (by decide) (backOf (W := 0) (rm1_0 l Z a0 hw [] wEQUAL (2 : Int32) (4 : Int32) p0 h0 n0 Z0 O_EQUAL E_EQUAL ⟨fun q => absurd q f_eq, fun q => absurd (by decide) q⟩) hZ (ow6 hw) (ow5 hw) (by decide) (by decide)) (g := (mkF m 24 #[.val (.int p0), .val (.int (4 : Int32))] [(.int p0), (.int (4 : Int32)), (.int (2 : Int32)), (.ref wEQUAL)])) rfl (by rw [hml]; rfl) (argsL := [(.ref wEQUAL), (.int (2 : Int32)), (.int (4 : Int32)), (.int p0)]) (rest := []) (lenOf pd2 rfl) rfl (by show 2 * 0 + _ ≤ _; exact Nat.le_of_eq rfl) (hb hby at_24) (fun _ _ => ⟨rfl, e2, (by decide : 0 + 0 ≤ _), (by decide : 0 + 0 ≤ _)⟩)
    dsimp only [Pt.U, Pt.locs, Pt.cells, Pt.slots] at X3 l3 y3 z3 st3 hQ3
    subst l3 y3 z3
    obtain ⟨rfl, N3q, hh3⟩ := hQ3
    have N3 := Fr.app N0 N3q
    refine own_go (T' := T3) (f' := (mkF m 30 #[.val (.int p0), .val (.int (4 : Int32))] [])) (fun _ k => st3 _ (XS.ifNo X3.here hx rfl (hb hby at_27) rfl ((if0 _ _).trans (feq (by decide : ¬ ((1 : Int32) = (0 : Int32)))).1) k)) ?_
    obtain ⟨T4, X4, e4, st4⟩ := getS2 X3 hx hZ hown (host := "") (Or.inl (ow21 hw)) Via.refl hh3 S_NOT_EQUAL (g := (mkF m 30 #[.val (.int p0), .val (.int (4 : Int32))] [])) rfl (hb hby at_30)
    refine own_go (T' := T4) (f' := (mkF m 36 #[.val (.int p0), .val (.int (4 : Int32))] [(.int p0), (.int (4 : Int32)), (.int (5 : Int32)), (.ref wNOT_EQUAL)])) (fun _ k => st4 _ (XS.iconst X4.here hx rfl (hb hby at_33) (XS.iloadN X4.here hx rfl (hb hby at_34) rfl (XS.iloadN X4.here hx rfl (hb hby at_35) rfl k)))) ?_
    obtain ⟨_, _, ⟨T5, L5, k5, n5⟩, -, X5, ⟨Lc5, hQ5, l5, y5, z5⟩, st5⟩ := Jvm.LawKit.callS X4 hx (y := mn3) hown (mvT hZ (ow3 hw)) (mvT hZ (ow4 hw)) (mvT hZ (ow5 hw)) (mvT hZ (ow6 hw)) (by decide) (backOf (W := 0) (rm1_1 l Z a0 hw [] wNOT_EQUAL (5 : Int32) (4 : Int32) p0 h0 n0 Z0 O_NOT_EQUAL E_NOT_EQUAL ⟨fun _ => by decide, fun _ => f_eq⟩) hZ (ow6 hw) (ow5 hw) (by decide) (by decide)) (g := (mkF m 36 #[.val (.int p0), .val (.int (4 : Int32))] [(.int p0), (.int (4 : Int32)), (.int (5 : Int32)), (.ref wNOT_EQUAL)])) rfl (by rw [hml]; rfl) (argsL := [(.ref wNOT_EQUAL), (.int (5 : Int32)), (.int (4 : Int32)), (.int p0)]) (rest := []) (lenOf pd2 rfl) rfl (by show 2 * 0 + _ ≤ _; exact Nat.le_of_eq rfl) (hb hby at_36) (fun _ _ => ⟨rfl, e4, (by decide : 0 + 0 ≤ _), (by decide : 0 + 0 ≤ _)⟩)
    dsimp only [Pt.U, Pt.locs, Pt.cells, Pt.slots] at X5 l5 y5 z5 st5 hQ5
    subst l5 y5 z5
    obtain ⟨rfl, N5q, hh5⟩ := hQ5
    have N5 := Fr.app N3 N5q
    refine own_go (T' := T5) (f' := (mkF m 42 #[.val (.int p0), .val (.int (4 : Int32))] [])) (fun _ k => st5 _ (XS.ifNo X5.here hx rfl (hb hby at_39) rfl ((if0 _ _).trans (feq (by decide : ¬ ((1 : Int32) = (0 : Int32)))).1) k)) ?_
    obtain ⟨T6, X6, e6, st6⟩ := getS2 X5 hx hZ hown (host := "") (Or.inl (ow23 hw)) Via.refl hh5 S_LESS (g := (mkF m 42 #[.val (.int p0), .val (.int (4 : Int32))] [])) rfl (hb hby at_42)
    refine own_go (T' := T6) (f' := (mkF m 48 #[.val (.int p0), .val (.int (4 : Int32))] [(.int p0), (.int (4 : Int32)), (.int (4 : Int32)), (.ref wLESS)])) (fun _ k => st6 _ (XS.iconst X6.here hx rfl (hb hby at_45) (XS.iloadN X6.here hx rfl (hb hby at_46) rfl (XS.iloadN X6.here hx rfl (hb hby at_47) rfl k)))) ?_
    obtain ⟨_, _, ⟨T7, L7, k7, n7⟩, -, X7, ⟨Lc7, hQ7, l7, y7, z7⟩, st7⟩ := Jvm.LawKit.callS X6 hx (y := mn3) hown (mvT hZ (ow3 hw)) (mvT hZ (ow4 hw)) (mvT hZ (ow5 hw)) (mvT hZ (ow6 hw)) (by decide) (backOf (W := 0) (rm1_2 l Z a0 hw [] wLESS (4 : Int32) (4 : Int32) p0 h0 n0 Z0 O_LESS E_LESS ⟨fun _ => by decide, fun _ => hc1⟩) hZ (ow6 hw) (ow5 hw) (by decide) (by decide)) (g := (mkF m 48 #[.val (.int p0), .val (.int (4 : Int32))] [(.int p0), (.int (4 : Int32)), (.int (4 : Int32)), (.ref wLESS)])) rfl (by rw [hml]; rfl) (argsL := [(.ref wLESS), (.int (4 : Int32)), (.int (4 : Int32)), (.int p0)]) (rest := []) (lenOf pd2 rfl) rfl (by show 2 * 0 + _ ≤ _; exact Nat.le_of_eq rfl) (hb hby at_48) (fun _ _ => ⟨rfl, e6, (by decide : 0 + 0 ≤ _), (by decide : 0 + 0 ≤ _)⟩)
    dsimp only [Pt.U, Pt.locs, Pt.cells, Pt.slots] at X7 l7 y7 z7 st7 hQ7
    subst l7 y7 z7
    obtain ⟨rfl, N7q, hh7⟩ := hQ7
    have N7 := Fr.app N5 N7q
    refine own_go (T' := T7) (f' := (mkF m 54 #[.val (.int p0), .val (.int (4 : Int32))] [])) (fun _ k => st7 _ (XS.ifNo X7.here hx rfl (hb hby at_51) rfl ((if0 _ _).trans (feq (by decide : ¬ ((1 : Int32) = (0 : Int32)))).1) k)) ?_
    obtain ⟨T8, X8, e8, st8⟩ := getS2 X7 hx hZ hown (host := "") (Or.inl (ow25 hw)) Via.refl hh7 S_LESS_OR_EQUAL (g := (mkF m 54 #[.val (.int p0), .val (.int (4 : Int32))] [])) rfl (hb hby at_54)
    refine own_go (T' := T8) (f' := (mkF m 61 #[.val (.int p0), .val (.int (4 : Int32))] [(.int p0), (.int (4 : Int32)), (.int (6 : Int32)), (.ref wLESS_OR_EQUAL)])) (fun _ k => st8 _ (XS.bipush X8.here hx rfl (hb hby at_57) (XS.iloadN X8.here hx rfl (hb hby at_59) rfl (XS.iloadN X8.here hx rfl (hb hby at_60) rfl k)))) ?_
    obtain ⟨_, _, ⟨T9, L9, k9, n9⟩, -, X9, ⟨Lc9, hQ9, l9, y9, z9⟩, st9⟩ := Jvm.LawKit.callS X8 hx (y := mn3) hown (mvT hZ (ow3 hw)) (mvT hZ (ow4 hw)) (mvT hZ (ow5 hw)) (mvT hZ (ow6 hw)) (by decide) (backOf (W := 0) (rm1_3 l Z a0 hw [] wLESS_OR_EQUAL (6 : Int32) (4 : Int32) p0 h0 n0 Z0 O_LESS_OR_EQUAL E_LESS_OR_EQUAL ⟨fun _ => by decide, fun _ => f_gt⟩) hZ (ow6 hw) (ow5 hw) (by decide) (by decide)) (g := (mkF m 61 #[.val (.int p0), .val (.int (4 : Int32))] [(.int p0), (.int (4 : Int32)), (.int (6 : Int32)), (.ref wLESS_OR_EQUAL)])) rfl (by rw [hml]; rfl) (argsL := [(.ref wLESS_OR_EQUAL), (.int (6 : Int32)), (.int (4 : Int32)), (.int p0)]) (rest := []) (lenOf pd2 rfl) rfl (by show 2 * 0 + _ ≤ _; exact Nat.le_of_eq rfl) (hb hby at_61) (fun _ _ => ⟨rfl, e8, (by decide : 0 + 0 ≤ _), (by decide : 0 + 0 ≤ _)⟩)
    dsimp only [Pt.U, Pt.locs, Pt.cells, Pt.slots] at X9 l9 y9 z9 st9 hQ9
    subst l9 y9 z9
    obtain ⟨rfl, N9q, hh9⟩ := hQ9
    have N9 := Fr.app N7 N9q
    refine own_go (T' := T9) (f' := (mkF m 67 #[.val (.int p0), .val (.int (4 : Int32))] [])) (fun _ k => st9 _ (XS.ifNo X9.here hx rfl (hb hby at_64) rfl ((if0 _ _).trans (feq (by decide : ¬ ((1 : Int32) = (0 : Int32)))).1) k)) ?_
    obtain ⟨T10, X10, e10, st10⟩ := getS2 X9 hx hZ hown (host := "") (Or.inl (ow27 hw)) Via.refl hh9 S_GREATER (g := (mkF m 67 #[.val (.int p0), .val (.int (4 : Int32))] [])) rfl (hb hby at_67)
    refine own_go (T' := T10) (f' := (mkF m 73 #[.val (.int p0), .val (.int (4 : Int32))] [(.int p0), (.int (4 : Int32)), (.int (1 : Int32)), (.ref wGREATER)])) (fun _ k => st10 _ (XS.iconst X10.here hx rfl (hb hby at_70) (XS.iloadN X10.here hx rfl (hb hby at_71) rfl (XS.iloadN X10.here hx rfl (hb hby at_72) rfl k)))) ?_
    obtain ⟨_, _, ⟨T11, L11, k11, n11⟩, -, X11, ⟨Lc11, hQ11, l11, y11, z11⟩, st11⟩ := Jvm.LawKit.callS X10 hx (y := mn3) hown (mvT hZ (ow3 hw)) (mvT hZ (ow4 hw)) (mvT hZ (ow5 hw)) (mvT hZ (ow6 hw)) (by decide) (backOf (W := 0) (rm1_4 l Z a0 hw [] wGREATER (1 : Int32) (4 : Int32) p0 h0 n0 Z0 O_GREATER E_GREATER ⟨fun q => absurd q f_gt, fun q => absurd (by decide) q⟩) hZ (ow6 hw) (ow5 hw) (by decide) (by decide)) (g := (mkF m 73 #[.val (.int p0), .val (.int (4 : Int32))] [(.int p0), (.int (4 : Int32)), (.int (1 : Int32)), (.ref wGREATER)])) rfl (by rw [hml]; rfl) (argsL := [(.ref wGREATER), (.int (1 : Int32)), (.int (4 : Int32)), (.int p0)]) (rest := []) (lenOf pd2 rfl) rfl (by show 2 * 0 + _ ≤ _; exact Nat.le_of_eq rfl) (hb hby at_73) (fun _ _ => ⟨rfl, e10, (by decide : 0 + 0 ≤ _), (by decide : 0 + 0 ≤ _)⟩)
    dsimp only [Pt.U, Pt.locs, Pt.cells, Pt.slots] at X11 l11 y11 z11 st11 hQ11
    subst l11 y11 z11
    obtain ⟨rfl, N11q, hh11⟩ := hQ11
    have N11 := Fr.app N9 N11q
    refine own_go (T' := T11) (f' := (mkF m 79 #[.val (.int p0), .val (.int (4 : Int32))] [])) (fun _ k => st11 _ (XS.ifNo X11.here hx rfl (hb hby at_76) rfl ((if0 _ _).trans (feq (by decide : ¬ ((1 : Int32) = (0 : Int32)))).1) k)) ?_
    obtain ⟨T12, X12, e12, st12⟩ := getS2 X11 hx hZ hown (host := "") (Or.inl (ow29 hw)) Via.refl hh11 S_GREATER_OR_EQUAL (g := (mkF m 79 #[.val (.int p0), .val (.int (4 : Int32))] [])) rfl (hb hby at_79)
    refine own_go (T' := T12) (f' := (mkF m 85 #[.val (.int p0), .val (.int (4 : Int32))] [(.int p0), (.int (4 : Int32)), (.int (3 : Int32)), (.ref wGREATER_OR_EQUAL)])) (fun _ k => st12 _ (XS.iconst X12.here hx rfl (hb hby at_82) (XS.iloadN X12.here hx rfl (hb hby at_83) rfl (XS.iloadN X12.here hx rfl (hb hby at_84) rfl k)))) ?_
    obtain ⟨_, _, ⟨T13, L13, k13, n13⟩, -, X13, ⟨Lc13, hQ13, l13, y13, z13⟩, st13⟩ := Jvm.LawKit.callS X12 hx (y := mn3) hown (mvT hZ (ow3 hw)) (mvT hZ (ow4 hw)) (mvT hZ (ow5 hw)) (mvT hZ (ow6 hw)) (by decide) (backOf (W := 0) (rm1_5 l Z a0 hw [] wGREATER_OR_EQUAL (3 : Int32) (4 : Int32) p0 h0 n0 Z0 O_GREATER_OR_EQUAL E_GREATER_OR_EQUAL ⟨fun q => absurd hc1 q, fun q => absurd (by decide) q⟩) hZ (ow6 hw) (ow5 hw) (by decide) (by decide)) (g := (mkF m 85 #[.val (.int p0), .val (.int (4 : Int32))] [(.int p0), (.int (4 : Int32)), (.int (3 : Int32)), (.ref wGREATER_OR_EQUAL)])) rfl (by rw [hml]; rfl) (argsL := [(.ref wGREATER_OR_EQUAL), (.int (3 : Int32)), (.int (4 : Int32)), (.int p0)]) (rest := []) (lenOf pd2 rfl) rfl (by show 2 * 0 + _ ≤ _; exact Nat.le_of_eq rfl) (hb hby at_85) (fun _ _ => ⟨rfl, e12, (by decide : 0 + 0 ≤ _), (by decide : 0 + 0 ≤ _)⟩)
    dsimp only [Pt.U, Pt.locs, Pt.cells, Pt.slots] at X13 l13 y13 z13 st13 hQ13
    subst l13 y13 z13
    obtain ⟨rfl, N13q, hh13⟩ := hQ13
    have N13 := Fr.app N11 N13q
    refine own_go (T' := T13) (f' := (mkF m 96 #[.val (.int p0), .val (.int (4 : Int32))] [(.int (1 : Int32))])) (fun _ k => st13 _ (XS.ifNo X13.here hx rfl (hb hby at_88) rfl ((if0 _ _).trans (feq (by decide : ¬ ((1 : Int32) = (0 : Int32)))).1) (XS.iconst X13.here hx rfl (hb hby at_91) (XS.goto X13.here hx rfl (pc0 := 92) (pc' := 96) rfl (hb hby at_92) (by decide) (by decide) k)))) ?_
    refine own_ret X13 (v := some (.int (1 : Int32))) (fun h => by rw [Bd.returns] at h; cases h) Bd.notSynchronized (fun fs hr => retN X13 hx (t := .boolean) Bd.returns (by simp) (hb hby at_96) hr) ?_ (by decide) (by decide)
    show Q0 Z p0 wEQUAL wNOT_EQUAL wLESS wLESS_OR_EQUAL wGREATER wGREATER_OR_EQUAL h0 n0 _ T13.heap _
    exact ⟨rfl, N13⟩
  · refine own_go (T' := s₁) (f' := (mkF m 9 #[.val (.int p0), .unset] [(.int p0)])) (fun _ k => XS.ifYes X0.here hx rfl (pc0 := 1) (pc' := 8) rfl (hb hby at_1) rfl ((if0 _ _).trans (flt hc1).2.1) (by decide) (by decide) (XS.iloadN X0.here hx rfl (hb hby at_8) rfl k)) ?_
    by_cases hc14 : p0 = (0 : Int32)
    · refine own_go (T' := s₁) (f' := (mkF m 18 #[.val (.int p0), .val (.int (2 : Int32))] [])) (fun _ k => XS.ifNo X0.here hx rfl (hb hby at_9) rfl ((if0 _ _).trans (teq hc14).2) (XS.iconst X0.here hx rfl (hb hby at_12) (XS.goto X0.here hx rfl (pc0 := 13) (pc' := 17) rfl (hb hby at_13) (by decide) (by decide) (XS.istoreN X0.here hx rfl (hb hby at_17) rfl (l' := #[.val (.int p0), .val (.int (2 : Int32))]) rfl k)))) ?_
      have f_gt : ¬ (0 : Int32) < p0 := by rw [hc14]; decide
      obtain ⟨T15, X15, e15, st15⟩ := getS2 X0 hx hZ hown (host := "") (Or.inl (ow0 hw)) Via.refl e0 S_EQUAL (g := (mkF m 18 #[.val (.int p0), .val (.int (2 : Int32))] [])) rfl (hb hby at_18)
      refine own_go (T' := T15) (f' := (mkF m 24 #[.val (.int p0), .val (.int (2 : Int32))] [(.int p0), (.int (2 : Int32)), (.int (2 : Int32)), (.ref wEQUAL)])) (fun _ k => st15 _ (XS.iconst X15.here hx rfl (hb hby at_21) (XS.iloadN X15.here hx rfl (hb hby at_22) rfl (XS.iloadN X15.here hx rfl (hb hby at_23) rfl k)))) ?_
      obtain ⟨_, _, ⟨T16, L16, k16, n16⟩, -, X16, ⟨Lc16, hQ16, l16, y16, z16⟩, st16⟩ := Jvm.LawKit.callS X15 hx (y := mn3) hown (mvT hZ (ow3 hw)) (mvT hZ (ow4 hw)) (mvT hZ (ow5 hw)) (mvT hZ (ow6 hw)) (by decide) (backOf (W := 0) (rm1_0 l Z a0 hw [] wEQUAL (2 : Int32) (2 : Int32) p0 h0 n0 Z0 O_EQUAL E_EQUAL ⟨fun _ => by decide, fun _ => hc14⟩) hZ (ow6 hw) (ow5 hw) (by decide) (by decide)) (g := (mkF m 24 #[.val (.int p0), .val (.int (2 : Int32))] [(.int p0), (.int (2 : Int32)), (.int (2 : Int32)), (.ref wEQUAL)])) rfl (by rw [hml]; rfl) (argsL := [(.ref wEQUAL), (.int (2 : Int32)), (.int (2 : Int32)), (.int p0)]) (rest := []) (lenOf pd2 rfl) rfl (by show 2 * 0 + _ ≤ _; exact Nat.le_of_eq rfl) (hb hby at_24) (fun _ _ => ⟨rfl, e15, (by decide : 0 + 0 ≤ _), (by decide : 0 + 0 ≤ _)⟩)
      dsimp only [Pt.U, Pt.locs, Pt.cells, Pt.slots] at X16 l16 y16 z16 st16 hQ16
      subst l16 y16 z16
      obtain ⟨rfl, N16q, hh16⟩ := hQ16
      have N16 := Fr.app N0 N16q
      refine own_go (T' := T16) (f' := (mkF m 30 #[.val (.int p0), .val (.int (2 : Int32))] [])) (fun _ k => st16 _ (XS.ifNo X16.here hx rfl (hb hby at_27) rfl ((if0 _ _).trans (feq (by decide : ¬ ((1 : Int32) = (0 : Int32)))).1) k)) ?_
      obtain ⟨T17, X17, e17, st17⟩ := getS2 X16 hx hZ hown (host := "") (Or.inl (ow21 hw)) Via.refl hh16 S_NOT_EQUAL (g := (mkF m 30 #[.val (.int p0), .val (.int (2 : Int32))] [])) rfl (hb hby at_30)
      refine own_go (T' := T17) (f' := (mkF m 36 #[.val (.int p0), .val (.int (2 : Int32))] [(.int p0), (.int (2 : Int32)), (.int (5 : Int32)), (.ref wNOT_EQUAL)])) (fun _ k => st17 _ (XS.iconst X17.here hx rfl (hb hby at_33) (XS.iloadN X17.here hx rfl (hb hby at_34) rfl (XS.iloadN X17.here hx rfl (hb hby at_35) rfl k)))) ?_
      obtain ⟨_, _, ⟨T18, L18, k18, n18⟩, -, X18, ⟨Lc18, hQ18, l18, y18, z18⟩, st18⟩ := Jvm.LawKit.callS X17 hx (y := mn3) hown (mvT hZ (ow3 hw)) (mvT hZ (ow4 hw)) (mvT hZ (ow5 hw)) (mvT hZ (ow6 hw)) (by decide) (backOf (W := 0) (rm1_1 l Z a0 hw [] wNOT_EQUAL (5 : Int32) (2 : Int32) p0 h0 n0 Z0 O_NOT_EQUAL E_NOT_EQUAL ⟨fun q => absurd hc14 q, fun q => absurd (by decide) q⟩) hZ (ow6 hw) (ow5 hw) (by decide) (by decide)) (g := (mkF m 36 #[.val (.int p0), .val (.int (2 : Int32))] [(.int p0), (.int (2 : Int32)), (.int (5 : Int32)), (.ref wNOT_EQUAL)])) rfl (by rw [hml]; rfl) (argsL := [(.ref wNOT_EQUAL), (.int (5 : Int32)), (.int (2 : Int32)), (.int p0)]) (rest := []) (lenOf pd2 rfl) rfl (by show 2 * 0 + _ ≤ _; exact Nat.le_of_eq rfl) (hb hby at_36) (fun _ _ => ⟨rfl, e17, (by decide : 0 + 0 ≤ _), (by decide : 0 + 0 ≤ _)⟩)
      dsimp only [Pt.U, Pt.locs, Pt.cells, Pt.slots] at X18 l18 y18 z18 st18 hQ18
      subst l18 y18 z18
      obtain ⟨rfl, N18q, hh18⟩ := hQ18
      have N18 := Fr.app N16 N18q
      refine own_go (T' := T18) (f' := (mkF m 42 #[.val (.int p0), .val (.int (2 : Int32))] [])) (fun _ k => st18 _ (XS.ifNo X18.here hx rfl (hb hby at_39) rfl ((if0 _ _).trans (feq (by decide : ¬ ((1 : Int32) = (0 : Int32)))).1) k)) ?_
      obtain ⟨T19, X19, e19, st19⟩ := getS2 X18 hx hZ hown (host := "") (Or.inl (ow23 hw)) Via.refl hh18 S_LESS (g := (mkF m 42 #[.val (.int p0), .val (.int (2 : Int32))] [])) rfl (hb hby at_42)
      refine own_go (T' := T19) (f' := (mkF m 48 #[.val (.int p0), .val (.int (2 : Int32))] [(.int p0), (.int (2 : Int32)), (.int (4 : Int32)), (.ref wLESS)])) (fun _ k => st19 _ (XS.iconst X19.here hx rfl (hb hby at_45) (XS.iloadN X19.here hx rfl (hb hby at_46) rfl (XS.iloadN X19.here hx rfl (hb hby at_47) rfl k)))) ?_
      obtain ⟨_, _, ⟨T20, L20, k20, n20⟩, -, X20, ⟨Lc20, hQ20, l20, y20, z20⟩, st20⟩ := Jvm.LawKit.callS X19 hx (y := mn3) hown (mvT hZ (ow3 hw)) (mvT hZ (ow4 hw)) (mvT hZ (ow5 hw)) (mvT hZ (ow6 hw)) (by decide) (backOf (W := 0) (rm1_2 l Z a0 hw [] wLESS (4 : Int32) (2 : Int32) p0 h0 n0 Z0 O_LESS E_LESS ⟨fun q => absurd q hc1, fun q => absurd (by decide) q⟩) hZ (ow6 hw) (ow5 hw) (by decide) (by decide)) (g := (mkF m 48 #[.val (.int p0), .val (.int (2 : Int32))] [(.int p0), (.int (2 : Int32)), (.int (4 : Int32)), (.ref wLESS)])) rfl (by rw [hml]; rfl) (argsL := [(.ref wLESS), (.int (4 : Int32)), (.int (2 : Int32)), (.int p0)]) (rest := []) (lenOf pd2 rfl) rfl (by show 2 * 0 + _ ≤ _; exact Nat.le_of_eq rfl) (hb hby at_48) (fun _ _ => ⟨rfl, e19, (by decide : 0 + 0 ≤ _), (by decide : 0 + 0 ≤ _)⟩)
      dsimp only [Pt.U, Pt.locs, Pt.cells, Pt.slots] at X20 l20 y20 z20 st20 hQ20
      subst l20 y20 z20
      obtain ⟨rfl, N20q, hh20⟩ := hQ20
      have N20 := Fr.app N18 N20q
      refine own_go (T' := T20) (f' := (mkF m 54 #[.val (.int p0), .val (.int (2 : Int32))] [])) (fun _ k => st20 _ (XS.ifNo X20.here hx rfl (hb hby at_51) rfl ((if0 _ _).trans (feq (by decide : ¬ ((1 : Int32) = (0 : Int32)))).1) k)) ?_
      obtain ⟨T21, X21, e21, st21⟩ := getS2 X20 hx hZ hown (host := "") (Or.inl (ow25 hw)) Via.refl hh20 S_LESS_OR_EQUAL (g := (mkF m 54 #[.val (.int p0), .val (.int (2 : Int32))] [])) rfl (hb hby at_54)
      refine own_go (T' := T21) (f' := (mkF m 61 #[.val (.int p0), .val (.int (2 : Int32))] [(.int p0), (.int (2 : Int32)), (.int (6 : Int32)), (.ref wLESS_OR_EQUAL)])) (fun _ k => st21 _ (XS.bipush X21.here hx rfl (hb hby at_57) (XS.iloadN X21.here hx rfl (hb hby at_59) rfl (XS.iloadN X21.here hx rfl (hb hby at_60) rfl k)))) ?_
      obtain ⟨_, _, ⟨T22, L22, k22, n22⟩, -, X22, ⟨Lc22, hQ22, l22, y22, z22⟩, st22⟩ := Jvm.LawKit.callS X21 hx (y := mn3) hown (mvT hZ (ow3 hw)) (mvT hZ (ow4 hw)) (mvT hZ (ow5 hw)) (mvT hZ (ow6 hw)) (by decide) (backOf (W := 0) (rm1_3 l Z a0 hw [] wLESS_OR_EQUAL (6 : Int32) (2 : Int32) p0 h0 n0 Z0 O_LESS_OR_EQUAL E_LESS_OR_EQUAL ⟨fun _ => by decide, fun _ => f_gt⟩) hZ (ow6 hw) (ow5 hw) (by decide) (by decide)) (g := (mkF m 61 #[.val (.int p0), .val (.int (2 : Int32))] [(.int p0), (.int (2 : Int32)), (.int (6 : Int32)), (.ref wLESS_OR_EQUAL)])) rfl (by rw [hml]; rfl) (argsL := [(.ref wLESS_OR_EQUAL), (.int (6 : Int32)), (.int (2 : Int32)), (.int p0)]) (rest := []) (lenOf pd2 rfl) rfl (by show 2 * 0 + _ ≤ _; exact Nat.le_of_eq rfl) (hb hby at_61) (fun _ _ => ⟨rfl, e21, (by decide : 0 + 0 ≤ _), (by decide : 0 + 0 ≤ _)⟩)
      dsimp only [Pt.U, Pt.locs, Pt.cells, Pt.slots] at X22 l22 y22 z22 st22 hQ22
      subst l22 y22 z22
      obtain ⟨rfl, N22q, hh22⟩ := hQ22
      have N22 := Fr.app N20 N22q
      refine own_go (T' := T22) (f' := (mkF m 67 #[.val (.int p0), .val (.int (2 : Int32))] [])) (fun _ k => st22 _ (XS.ifNo X22.here hx rfl (hb hby at_64) rfl ((if0 _ _).trans (feq (by decide : ¬ ((1 : Int32) = (0 : Int32)))).1) k)) ?_
      obtain ⟨T23, X23, e23, st23⟩ := getS2 X22 hx hZ hown (host := "") (Or.inl (ow27 hw)) Via.refl hh22 S_GREATER (g := (mkF m 67 #[.val (.int p0), .val (.int (2 : Int32))] [])) rfl (hb hby at_67)
      refine own_go (T' := T23) (f' := (mkF m 73 #[.val (.int p0), .val (.int (2 : Int32))] [(.int p0), (.int (2 : Int32)), (.int (1 : Int32)), (.ref wGREATER)])) (fun _ k => st23 _ (XS.iconst X23.here hx rfl (hb hby at_70) (XS.iloadN X23.here hx rfl (hb hby at_71) rfl (XS.iloadN X23.here hx rfl (hb hby at_72) rfl k)))) ?_
      obtain ⟨_, _, ⟨T24, L24, k24, n24⟩, -, X24, ⟨Lc24, hQ24, l24, y24, z24⟩, st24⟩ := Jvm.LawKit.callS X23 hx (y := mn3) hown (mvT hZ (ow3 hw)) (mvT hZ (ow4 hw)) (mvT hZ (ow5 hw)) (mvT hZ (ow6 hw)) (by decide) (backOf (W := 0) (rm1_4 l Z a0 hw [] wGREATER (1 : Int32) (2 : Int32) p0 h0 n0 Z0 O_GREATER E_GREATER ⟨fun q => absurd q f_gt, fun q => absurd (by decide) q⟩) hZ (ow6 hw) (ow5 hw) (by decide) (by decide)) (g := (mkF m 73 #[.val (.int p0), .val (.int (2 : Int32))] [(.int p0), (.int (2 : Int32)), (.int (1 : Int32)), (.ref wGREATER)])) rfl (by rw [hml]; rfl) (argsL := [(.ref wGREATER), (.int (1 : Int32)), (.int (2 : Int32)), (.int p0)]) (rest := []) (lenOf pd2 rfl) rfl (by show 2 * 0 + _ ≤ _; exact Nat.le_of_eq rfl) (hb hby at_73) (fun _ _ => ⟨rfl, e23, (by decide : 0 + 0 ≤ _), (by decide : 0 + 0 ≤ _)⟩)
      dsimp only [Pt.U, Pt.locs, Pt.cells, Pt.slots] at X24 l24 y24 z24 st24 hQ24
      subst l24 y24 z24
      obtain ⟨rfl, N24q, hh24⟩ := hQ24
      have N24 := Fr.app N22 N24q
      refine own_go (T' := T24) (f' := (mkF m 79 #[.val (.int p0), .val (.int (2 : Int32))] [])) (fun _ k => st24 _ (XS.ifNo X24.here hx rfl (hb hby at_76) rfl ((if0 _ _).trans (feq (by decide : ¬ ((1 : Int32) = (0 : Int32)))).1) k)) ?_
      obtain ⟨T25, X25, e25, st25⟩ := getS2 X24 hx hZ hown (host := "") (Or.inl (ow29 hw)) Via.refl hh24 S_GREATER_OR_EQUAL (g := (mkF m 79 #[.val (.int p0), .val (.int (2 : Int32))] [])) rfl (hb hby at_79)
      refine own_go (T' := T25) (f' := (mkF m 85 #[.val (.int p0), .val (.int (2 : Int32))] [(.int p0), (.int (2 : Int32)), (.int (3 : Int32)), (.ref wGREATER_OR_EQUAL)])) (fun _ k => st25 _ (XS.iconst X25.here hx rfl (hb hby at_82) (XS.iloadN X25.here hx rfl (hb hby at_83) rfl (XS.iloadN X25.here hx rfl (hb hby at_84) rfl k)))) ?_
      obtain ⟨_, _, ⟨T26, L26, k26, n26⟩, -, X26, ⟨Lc26, hQ26, l26, y26, z26⟩, st26⟩ := Jvm.LawKit.callS X25 hx (y := mn3) hown (mvT hZ (ow3 hw)) (mvT hZ (ow4 hw)) (mvT hZ (ow5 hw)) (mvT hZ (ow6 hw)) (by decide) (backOf (W := 0) (rm1_5 l Z a0 hw [] wGREATER_OR_EQUAL (3 : Int32) (2 : Int32) p0 h0 n0 Z0 O_GREATER_OR_EQUAL E_GREATER_OR_EQUAL ⟨fun _ => by decide, fun _ => hc1⟩) hZ (ow6 hw) (ow5 hw) (by decide) (by decide)) (g := (mkF m 85 #[.val (.int p0), .val (.int (2 : Int32))] [(.int p0), (.int (2 : Int32)), (.int (3 : Int32)), (.ref wGREATER_OR_EQUAL)])) rfl (by rw [hml]; rfl) (argsL := [(.ref wGREATER_OR_EQUAL), (.int (3 : Int32)), (.int (2 : Int32)), (.int p0)]) (rest := []) (lenOf pd2 rfl) rfl (by show 2 * 0 + _ ≤ _; exact Nat.le_of_eq rfl) (hb hby at_85) (fun _ _ => ⟨rfl, e25, (by decide : 0 + 0 ≤ _), (by decide : 0 + 0 ≤ _)⟩)
      dsimp only [Pt.U, Pt.locs, Pt.cells, Pt.slots] at X26 l26 y26 z26 st26 hQ26
      subst l26 y26 z26
      obtain ⟨rfl, N26q, hh26⟩ := hQ26
      have N26 := Fr.app N24 N26q
      refine own_go (T' := T26) (f' := (mkF m 96 #[.val (.int p0), .val (.int (2 : Int32))] [(.int (1 : Int32))])) (fun _ k => st26 _ (XS.ifNo X26.here hx rfl (hb hby at_88) rfl ((if0 _ _).trans (feq (by decide : ¬ ((1 : Int32) = (0 : Int32)))).1) (XS.iconst X26.here hx rfl (hb hby at_91) (XS.goto X26.here hx rfl (pc0 := 92) (pc' := 96) rfl (hb hby at_92) (by decide) (by decide) k)))) ?_
      refine own_ret X26 (v := some (.int (1 : Int32))) (fun h => by rw [Bd.returns] at h; cases h) Bd.notSynchronized (fun fs hr => retN X26 hx (t := .boolean) Bd.returns (by simp) (hb hby at_96) hr) ?_ (by decide) (by decide)
      show Q0 Z p0 wEQUAL wNOT_EQUAL wLESS wLESS_OR_EQUAL wGREATER wGREATER_OR_EQUAL h0 n0 _ T26.heap _
      exact ⟨rfl, N26⟩
    · refine own_go (T' := s₁) (f' := (mkF m 18 #[.val (.int p0), .val (.int (1 : Int32))] [])) (fun _ k => XS.ifYes X0.here hx rfl (pc0 := 9) (pc' := 16) rfl (hb hby at_9) rfl ((if0 _ _).trans (feq hc14).2) (by decide) (by decide) (XS.iconst X0.here hx rfl (hb hby at_16) (XS.istoreN X0.here hx rfl (hb hby at_17) rfl (l' := #[.val (.int p0), .val (.int (1 : Int32))]) rfl k))) ?_
      have f_gt : (0 : Int32) < p0 := own_pos hc1 hc14
      obtain ⟨T27, X27, e27, st27⟩ := getS2 X0 hx hZ hown (host := "") (Or.inl (ow0 hw)) Via.refl e0 S_EQUAL (g := (mkF m 18 #[.val (.int p0), .val (.int (1 : Int32))] [])) rfl (hb hby at_18)
      refine own_go (T' := T27) (f' := (mkF m 24 #[.val (.int p0), .val (.int (1 : Int32))] [(.int p0), (.int (1 : Int32)), (.int (2 : Int32)), (.ref wEQUAL)])) (fun _ k => st27 _ (XS.iconst X27.here hx rfl (hb hby at_21) (XS.iloadN X27.here hx rfl (hb hby at_22) rfl (XS.iloadN X27.here hx rfl (hb hby at_23) rfl k)))) ?_
      obtain ⟨_, _, ⟨T28, L28, k28, n28⟩, -, X28, ⟨Lc28, hQ28, l28, y28, z28⟩, st28⟩ := Jvm.LawKit.callS X27 hx (y := mn3) hown (mvT hZ (ow3 hw)) (mvT hZ (ow4 hw)) (mvT hZ (ow5 hw)) (mvT hZ (ow6 hw)) (by decide) (backOf (W := 0) (rm1_0 l Z a0 hw [] wEQUAL (2 : Int32) (1 : Int32) p0 h0 n0 Z0 O_EQUAL E_EQUAL ⟨fun q => absurd q hc14, fun q => absurd (by decide) q⟩) hZ (ow6 hw) (ow5 hw) (by decide) (by decide)) (g := (mkF m 24 #[.val (.int p0), .val (.int (1 : Int32))] [(.int p0), (.int (1 : Int32)), (.int (2 : Int32)), (.ref wEQUAL)])) rfl (by rw [hml]; rfl) (argsL := [(.ref wEQUAL), (.int (2 : Int32)), (.int (1 : Int32)), (.int p0)]) (rest := []) (lenOf pd2 rfl) rfl (by show 2 * 0 + _ ≤ _; exact Nat.le_of_eq rfl) (hb hby at_24) (fun _ _ => ⟨rfl, e27, (by decide : 0 + 0 ≤ _), (by decide : 0 + 0 ≤ _)⟩)
      dsimp only [Pt.U, Pt.locs, Pt.cells, Pt.slots] at X28 l28 y28 z28 st28 hQ28
      subst l28 y28 z28
      obtain ⟨rfl, N28q, hh28⟩ := hQ28
      have N28 := Fr.app N0 N28q
      refine own_go (T' := T28) (f' := (mkF m 30 #[.val (.int p0), .val (.int (1 : Int32))] [])) (fun _ k => st28 _ (XS.ifNo X28.here hx rfl (hb hby at_27) rfl ((if0 _ _).trans (feq (by decide : ¬ ((1 : Int32) = (0 : Int32)))).1) k)) ?_
      obtain ⟨T29, X29, e29, st29⟩ := getS2 X28 hx hZ hown (host := "") (Or.inl (ow21 hw)) Via.refl hh28 S_NOT_EQUAL (g := (mkF m 30 #[.val (.int p0), .val (.int (1 : Int32))] [])) rfl (hb hby at_30)
      refine own_go (T' := T29) (f' := (mkF m 36 #[.val (.int p0), .val (.int (1 : Int32))] [(.int p0), (.int (1 : Int32)), (.int (5 : Int32)), (.ref wNOT_EQUAL)])) (fun _ k => st29 _ (XS.iconst X29.here hx rfl (hb hby at_33) (XS.iloadN X29.here hx rfl (hb hby at_34) rfl (XS.iloadN X29.here hx rfl (hb hby at_35) rfl k)))) ?_
      obtain ⟨_, _, ⟨T30, L30, k30, n30⟩, -, X30, ⟨Lc30, hQ30, l30, y30, z30⟩, st30⟩ := Jvm.LawKit.callS X29 hx (y := mn3) hown (mvT hZ (ow3 hw)) (mvT hZ (ow4 hw)) (mvT hZ (ow5 hw)) (mvT hZ (ow6 hw)) (by decide) (backOf (W := 0) (rm1_1 l Z a0 hw [] wNOT_EQUAL (5 : Int32) (1 : Int32) p0 h0 n0 Z0 O_NOT_EQUAL E_NOT_EQUAL ⟨fun _ => by decide, fun _ => hc14⟩) hZ (ow6 hw) (ow5 hw) (by decide) (by decide)) (g := (mkF m 36 #[.val (.int p0), .val (.int (1 : Int32))] [(.int p0), (.int (1 : Int32)), (.int (5 : Int32)), (.ref wNOT_EQUAL)])) rfl (by rw [hml]; rfl) (argsL := [(.ref wNOT_EQUAL), (.int (5 : Int32)), (.int (1 : Int32)), (.int p0)]) (rest := []) (lenOf pd2 rfl) rfl (by show 2 * 0 + _ ≤ _; exact Nat.le_of_eq rfl) (hb hby at_36) (fun _ _ => ⟨rfl, e29, (by decide : 0 + 0 ≤ _), (by decide : 0 + 0 ≤ _)⟩)
      dsimp only [Pt.U, Pt.locs, Pt.cells, Pt.slots] at X30 l30 y30 z30 st30 hQ30
      subst l30 y30 z30
      obtain ⟨rfl, N30q, hh30⟩ := hQ30
      have N30 := Fr.app N28 N30q
      refine own_go (T' := T30) (f' := (mkF m 42 #[.val (.int p0), .val (.int (1 : Int32))] [])) (fun _ k => st30 _ (XS.ifNo X30.here hx rfl (hb hby at_39) rfl ((if0 _ _).trans (feq (by decide : ¬ ((1 : Int32) = (0 : Int32)))).1) k)) ?_
      obtain ⟨T31, X31, e31, st31⟩ := getS2 X30 hx hZ hown (host := "") (Or.inl (ow23 hw)) Via.refl hh30 S_LESS (g := (mkF m 42 #[.val (.int p0), .val (.int (1 : Int32))] [])) rfl (hb hby at_42)
      refine own_go (T' := T31) (f' := (mkF m 48 #[.val (.int p0), .val (.int (1 : Int32))] [(.int p0), (.int (1 : Int32)), (.int (4 : Int32)), (.ref wLESS)])) (fun _ k => st31 _ (XS.iconst X31.here hx rfl (hb hby at_45) (XS.iloadN X31.here hx rfl (hb hby at_46) rfl (XS.iloadN X31.here hx rfl (hb hby at_47) rfl k)))) ?_
      obtain ⟨_, _, ⟨T32, L32, k32, n32⟩, -, X32, ⟨Lc32, hQ32, l32, y32, z32⟩, st32⟩ := Jvm.LawKit.callS X31 hx (y := mn3) hown (mvT hZ (ow3 hw)) (mvT hZ (ow4 hw)) (mvT hZ (ow5 hw)) (mvT hZ (ow6 hw)) (by decide) (backOf (W := 0) (rm1_2 l Z a0 hw [] wLESS (4 : Int32) (1 : Int32) p0 h0 n0 Z0 O_LESS E_LESS ⟨fun q => absurd q hc1, fun q => absurd (by decide) q⟩) hZ (ow6 hw) (ow5 hw) (by decide) (by decide)) (g := (mkF m 48 #[.val (.int p0), .val (.int (1 : Int32))] [(.int p0), (.int (1 : Int32)), (.int (4 : Int32)), (.ref wLESS)])) rfl (by rw [hml]; rfl) (argsL := [(.ref wLESS), (.int (4 : Int32)), (.int (1 : Int32)), (.int p0)]) (rest := []) (lenOf pd2 rfl) rfl (by show 2 * 0 + _ ≤ _; exact Nat.le_of_eq rfl) (hb hby at_48) (fun _ _ => ⟨rfl, e31, (by decide : 0 + 0 ≤ _), (by decide : 0 + 0 ≤ _)⟩)
      dsimp only [Pt.U, Pt.locs, Pt.cells, Pt.slots] at X32 l32 y32 z32 st32 hQ32
      subst l32 y32 z32
      obtain ⟨rfl, N32q, hh32⟩ := hQ32
      have N32 := Fr.app N30 N32q
      refine own_go (T' := T32) (f' := (mkF m 54 #[.val (.int p0), .val (.int (1 : Int32))] [])) (fun _ k => st32 _ (XS.ifNo X32.here hx rfl (hb hby at_51) rfl ((if0 _ _).trans (feq (by decide : ¬ ((1 : Int32) = (0 : Int32)))).1) k)) ?_
      obtain ⟨T33, X33, e33, st33⟩ := getS2 X32 hx hZ hown (host := "") (Or.inl (ow25 hw)) Via.refl hh32 S_LESS_OR_EQUAL (g := (mkF m 54 #[.val (.int p0), .val (.int (1 : Int32))] [])) rfl (hb hby at_54)
      refine own_go (T' := T33) (f' := (mkF m 61 #[.val (.int p0), .val (.int (1 : Int32))] [(.int p0), (.int (1 : Int32)), (.int (6 : Int32)), (.ref wLESS_OR_EQUAL)])) (fun _ k => st33 _ (XS.bipush X33.here hx rfl (hb hby at_57) (XS.iloadN X33.here hx rfl (hb hby at_59) rfl (XS.iloadN X33.here hx rfl (hb hby at_60) rfl k)))) ?_
      obtain ⟨_, _, ⟨T34, L34, k34, n34⟩, -, X34, ⟨Lc34, hQ34, l34, y34, z34⟩, st34⟩ := Jvm.LawKit.callS X33 hx (y := mn3) hown (mvT hZ (ow3 hw)) (mvT hZ (ow4 hw)) (mvT hZ (ow5 hw)) (mvT hZ (ow6 hw)) (by decide) (backOf (W := 0) (rm1_3 l Z a0 hw [] wLESS_OR_EQUAL (6 : Int32) (1 : Int32) p0 h0 n0 Z0 O_LESS_OR_EQUAL E_LESS_OR_EQUAL ⟨fun q => absurd f_gt q, fun q => absurd (by decide) q⟩) hZ (ow6 hw) (ow5 hw) (by decide) (by decide)) (g := (mkF m 61 #[.val (.int p0), .val (.int (1 : Int32))] [(.int p0), (.int (1 : Int32)), (.int (6 : Int32)), (.ref wLESS_OR_EQUAL)])) rfl (by rw [hml]; rfl) (argsL := [(.ref wLESS_OR_EQUAL), (.int (6 : Int32)), (.int (1 : Int32)), (.int p0)]) (rest := []) (lenOf pd2 rfl) rfl (by show 2 * 0 + _ ≤ _; exact Nat.le_of_eq rfl) (hb hby at_61) (fun _ _ => ⟨rfl, e33, (by decide : 0 + 0 ≤ _), (by decide : 0 + 0 ≤ _)⟩)
      dsimp only [Pt.U, Pt.locs, Pt.cells, Pt.slots] at X34 l34 y34 z34 st34 hQ34
      subst l34 y34 z34
      obtain ⟨rfl, N34q, hh34⟩ := hQ34
      have N34 := Fr.app N32 N34q
      refine own_go (T' := T34) (f' := (mkF m 67 #[.val (.int p0), .val (.int (1 : Int32))] [])) (fun _ k => st34 _ (XS.ifNo X34.here hx rfl (hb hby at_64) rfl ((if0 _ _).trans (feq (by decide : ¬ ((1 : Int32) = (0 : Int32)))).1) k)) ?_
      obtain ⟨T35, X35, e35, st35⟩ := getS2 X34 hx hZ hown (host := "") (Or.inl (ow27 hw)) Via.refl hh34 S_GREATER (g := (mkF m 67 #[.val (.int p0), .val (.int (1 : Int32))] [])) rfl (hb hby at_67)
      refine own_go (T' := T35) (f' := (mkF m 73 #[.val (.int p0), .val (.int (1 : Int32))] [(.int p0), (.int (1 : Int32)), (.int (1 : Int32)), (.ref wGREATER)])) (fun _ k => st35 _ (XS.iconst X35.here hx rfl (hb hby at_70) (XS.iloadN X35.here hx rfl (hb hby at_71) rfl (XS.iloadN X35.here hx rfl (hb hby at_72) rfl k)))) ?_
      obtain ⟨_, _, ⟨T36, L36, k36, n36⟩, -, X36, ⟨Lc36, hQ36, l36, y36, z36⟩, st36⟩ := Jvm.LawKit.callS X35 hx (y := mn3) hown (mvT hZ (ow3 hw)) (mvT hZ (ow4 hw)) (mvT hZ (ow5 hw)) (mvT hZ (ow6 hw)) (by decide) (backOf (W := 0) (rm1_4 l Z a0 hw [] wGREATER (1 : Int32) (1 : Int32) p0 h0 n0 Z0 O_GREATER E_GREATER ⟨fun _ => by decide, fun _ => f_gt⟩) hZ (ow6 hw) (ow5 hw) (by decide) (by decide)) (g := (mkF m 73 #[.val (.int p0), .val (.int (1 : Int32))] [(.int p0), (.int (1 : Int32)), (.int (1 : Int32)), (.ref wGREATER)])) rfl (by rw [hml]; rfl) (argsL := [(.ref wGREATER), (.int (1 : Int32)), (.int (1 : Int32)), (.int p0)]) (rest := []) (lenOf pd2 rfl) rfl (by show 2 * 0 + _ ≤ _; exact Nat.le_of_eq rfl) (hb hby at_73) (fun _ _ => ⟨rfl, e35, (by decide : 0 + 0 ≤ _), (by decide : 0 + 0 ≤ _)⟩)
      dsimp only [Pt.U, Pt.locs, Pt.cells, Pt.slots] at X36 l36 y36 z36 st36 hQ36
      subst l36 y36 z36
      obtain ⟨rfl, N36q, hh36⟩ := hQ36
      have N36 := Fr.app N34 N36q
      refine own_go (T' := T36) (f' := (mkF m 79 #[.val (.int p0), .val (.int (1 : Int32))] [])) (fun _ k => st36 _ (XS.ifNo X36.here hx rfl (hb hby at_76) rfl ((if0 _ _).trans (feq (by decide : ¬ ((1 : Int32) = (0 : Int32)))).1) k)) ?_
      obtain ⟨T37, X37, e37, st37⟩ := getS2 X36 hx hZ hown (host := "") (Or.inl (ow29 hw)) Via.refl hh36 S_GREATER_OR_EQUAL (g := (mkF m 79 #[.val (.int p0), .val (.int (1 : Int32))] [])) rfl (hb hby at_79)
      refine own_go (T' := T37) (f' := (mkF m 85 #[.val (.int p0), .val (.int (1 : Int32))] [(.int p0), (.int (1 : Int32)), (.int (3 : Int32)), (.ref wGREATER_OR_EQUAL)])) (fun _ k => st37 _ (XS.iconst X37.here hx rfl (hb hby at_82) (XS.iloadN X37.here hx rfl (hb hby at_83) rfl (XS.iloadN X37.here hx rfl (hb hby at_84) rfl k)))) ?_
      obtain ⟨_, _, ⟨T38, L38, k38, n38⟩, -, X38, ⟨Lc38, hQ38, l38, y38, z38⟩, st38⟩ := Jvm.LawKit.callS X37 hx (y := mn3) hown (mvT hZ (ow3 hw)) (mvT hZ (ow4 hw)) (mvT hZ (ow5 hw)) (mvT hZ (ow6 hw)) (by decide) (backOf (W := 0) (rm1_5 l Z a0 hw [] wGREATER_OR_EQUAL (3 : Int32) (1 : Int32) p0 h0 n0 Z0 O_GREATER_OR_EQUAL E_GREATER_OR_EQUAL ⟨fun _ => by decide, fun _ => hc1⟩) hZ (ow6 hw) (ow5 hw) (by decide) (by decide)) (g := (mkF m 85 #[.val (.int p0), .val (.int (1 : Int32))] [(.int p0), (.int (1 : Int32)), (.int (3 : Int32)), (.ref wGREATER_OR_EQUAL)])) rfl (by rw [hml]; rfl) (argsL := [(.ref wGREATER_OR_EQUAL), (.int (3 : Int32)), (.int (1 : Int32)), (.int p0)]) (rest := []) (lenOf pd2 rfl) rfl (by show 2 * 0 + _ ≤ _; exact Nat.le_of_eq rfl) (hb hby at_85) (fun _ _ => ⟨rfl, e37, (by decide : 0 + 0 ≤ _), (by decide : 0 + 0 ≤ _)⟩)
      dsimp only [Pt.U, Pt.locs, Pt.cells, Pt.slots] at X38 l38 y38 z38 st38 hQ38
      subst l38 y38 z38
      obtain ⟨rfl, N38q, hh38⟩ := hQ38
      have N38 := Fr.app N36 N38q
      refine own_go (T' := T38) (f' := (mkF m 96 #[.val (.int p0), .val (.int (1 : Int32))] [(.int (1 : Int32))])) (fun _ k => st38 _ (XS.ifNo X38.here hx rfl (hb hby at_88) rfl ((if0 _ _).trans (feq (by decide : ¬ ((1 : Int32) = (0 : Int32)))).1) (XS.iconst X38.here hx rfl (hb hby at_91) (XS.goto X38.here hx rfl (pc0 := 92) (pc' := 96) rfl (hb hby at_92) (by decide) (by decide) k)))) ?_
      refine own_ret X38 (v := some (.int (1 : Int32))) (fun h => by rw [Bd.returns] at h; cases h) Bd.notSynchronized (fun fs hr => retN X38 hx (t := .boolean) Bd.returns (by simp) (hb hby at_96) hr) ?_ (by decide) (by decide)
      show Q0 Z p0 wEQUAL wNOT_EQUAL wLESS wLESS_OR_EQUAL wGREATER wGREATER_OR_EQUAL h0 n0 _ T38.heap _
      exact ⟨rfl, N38⟩
set_option maxRecDepth 65536 in
set_option maxHeartbeats 40000000 in
theorem comes_1 {Post : Tables → Env → Array Value → State → Outcome → State → Prop} (hpost : ∀ tb e args s v u, (limb_1_1.after args s (.returned v) u = true ∧ limb_1_2.after args s (.returned v) u = true ∧ True) → FrameEnd s (.returned v) u (Jvm.fieldLocs frame_1_writes args s ++ Jvm.arrayLocs frame_1_arrays args s ++ Jvm.staticLocs frame_1_statics s) 0 0 → Post tb e args s (.returned v) u) :
    ArmFor flags0 classFile x code maxLocals ret World_1 tables_1 room_1 Calls_1 rest_1 Pre_1 Post := by
  intro l hfl _ _ p e ha hc hk s m args below hf hA hF happ hP
  obtain ⟨hcalls, hrest, hpre⟩ := hP
  obtain ⟨-, -, -, hnamed, -, -, -, hat⟩ := (Spec.applies_iff hf).mp happ
  obtain ⟨hg, hn⟩ := and_e (Cond.before_iff.mp (show (Jvm.Cond.and given_1 narrow_1).before args s = true from hpre))
  obtain ⟨hg_2, hg_3⟩ := and_e hg
  obtain ⟨w0, rfl⟩ : ∃ w0 : Value, args = #[w0] := by
    have hs : args.size = 1 := by simpa [Cond.value, given_1] using hg_2
    obtain ⟨L⟩ := args
    match L, hs with
    | [w0], _ => exact ⟨w0, rfl⟩
  have hw := fun d (hd : d ∈ tables_1) => atoms_spec (ws := Jvm.Cond.code x code maxLocals ret :: tables_1) hat d (List.mem_cons_of_mem _ hd)
  have hfit : Fit s := fun {y c} hc i hi => by
    obtain ⟨ha, rfl⟩ := Array.getElem?_eq_some_iff.mp hc
    have q := List.all_eq_true.mp ((Array.all_eq_true_iff_forall_mem.mp hF) _ (Array.getElem_mem ha)) i (List.mem_range.mpr hi)
    simpa [Array.getElem?_eq_getElem hi] using q
  obtain ⟨i0, ei0⟩ := is_v hg_3
  obtain rfl : w0 = (.int i0) := Option.some.inj ei0
  obtain ⟨hn_2, hn_3⟩ := and_e hn
  obtain ⟨hn_4, hn_5⟩ := and_e hn_3
  obtain ⟨hn_6, hn_7⟩ := and_e hn_5
  obtain ⟨hn_8, hn_9⟩ := and_e hn_7
  obtain ⟨hn_10, hn_11⟩ := and_e hn_9
  obtain ⟨hn_12, hn_13⟩ := and_e hn_11
  obtain ⟨hn_14, hn_15⟩ := and_e hn_13
  obtain ⟨hn_16, hn_17⟩ := and_e hn_15
  obtain ⟨hn_18, hn_19⟩ := and_e hn_17
  obtain ⟨hn_20, hn_21⟩ := and_e hn_19
  obtain ⟨hn_22, hn_23⟩ := and_e hn_21
  obtain ⟨w_EQUAL, ev_EQUAL⟩ := exa_v hn_2
  have E_EQUAL : Exa s s.heap w_EQUAL "com/example/reckonmill/reckonmill/lib/model/tree/Comparison" := Exa.start ev_EQUAL hn_2
  have S_EQUAL : Sta s s.heap "com/example/reckonmill/reckonmill/lib/model/tree/Comparison" "EQUAL" "Lcom/example/reckonmill/reckonmill/lib/model/tree/Comparison;" (.ref w_EQUAL) := Sta.start ev_EQUAL (Or.inr ⟨(ow1 hw), (ow2 hw)⟩)
  obtain ⟨w_NOT_EQUAL, ev_NOT_EQUAL⟩ := exa_v hn_6
  have E_NOT_EQUAL : Exa s s.heap w_NOT_EQUAL "com/example/reckonmill/reckonmill/lib/model/tree/Comparison" := Exa.start ev_NOT_EQUAL hn_6
  have S_NOT_EQUAL : Sta s s.heap "com/example/reckonmill/reckonmill/lib/model/tree/Comparison" "NOT_EQUAL" "Lcom/example/reckonmill/reckonmill/lib/model/tree/Comparison;" (.ref w_NOT_EQUAL) := Sta.start ev_NOT_EQUAL (Or.inr ⟨(ow1 hw), (ow22 hw)⟩)
  obtain ⟨w_LESS, ev_LESS⟩ := exa_v hn_10
  have E_LESS : Exa s s.heap w_LESS "com/example/reckonmill/reckonmill/lib/model/tree/Comparison" := Exa.start ev_LESS hn_10
  have S_LESS : Sta s s.heap "com/example/reckonmill/reckonmill/lib/model/tree/Comparison" "LESS" "Lcom/example/reckonmill/reckonmill/lib/model/tree/Comparison;" (.ref w_LESS) := Sta.start ev_LESS (Or.inr ⟨(ow1 hw), (ow24 hw)⟩)
  obtain ⟨w_LESS_OR_EQUAL, ev_LESS_OR_EQUAL⟩ := exa_v hn_14
  have E_LESS_OR_EQUAL : Exa s s.heap w_LESS_OR_EQUAL "com/example/reckonmill/reckonmill/lib/model/tree/Comparison" := Exa.start ev_LESS_OR_EQUAL hn_14
  have S_LESS_OR_EQUAL : Sta s s.heap "com/example/reckonmill/reckonmill/lib/model/tree/Comparison" "LESS_OR_EQUAL" "Lcom/example/reckonmill/reckonmill/lib/model/tree/Comparison;" (.ref w_LESS_OR_EQUAL) := Sta.start ev_LESS_OR_EQUAL (Or.inr ⟨(ow1 hw), (ow26 hw)⟩)
  obtain ⟨w_GREATER, ev_GREATER⟩ := exa_v hn_18
  have E_GREATER : Exa s s.heap w_GREATER "com/example/reckonmill/reckonmill/lib/model/tree/Comparison" := Exa.start ev_GREATER hn_18
  have S_GREATER : Sta s s.heap "com/example/reckonmill/reckonmill/lib/model/tree/Comparison" "GREATER" "Lcom/example/reckonmill/reckonmill/lib/model/tree/Comparison;" (.ref w_GREATER) := Sta.start ev_GREATER (Or.inr ⟨(ow1 hw), (ow28 hw)⟩)
  obtain ⟨w_GREATER_OR_EQUAL, ev_GREATER_OR_EQUAL⟩ := exa_v hn_22
  have E_GREATER_OR_EQUAL : Exa s s.heap w_GREATER_OR_EQUAL "com/example/reckonmill/reckonmill/lib/model/tree/Comparison" := Exa.start ev_GREATER_OR_EQUAL hn_22
  have S_GREATER_OR_EQUAL : Sta s s.heap "com/example/reckonmill/reckonmill/lib/model/tree/Comparison" "GREATER_OR_EQUAL" "Lcom/example/reckonmill/reckonmill/lib/model/tree/Comparison;" (.ref w_GREATER_OR_EQUAL) := Sta.start ev_GREATER_OR_EQUAL (Or.inr ⟨(ow1 hw), (ow30 hw)⟩)
  have O_EQUAL : Fld s s.heap w_EQUAL "java/lang/Enum" "ordinal" "I" (.int (0 : Int32)) := own_fld_of ev_EQUAL hn_4
  have O_NOT_EQUAL : Fld s s.heap w_NOT_EQUAL "java/lang/Enum" "ordinal" "I" (.int (1 : Int32)) := own_fld_of ev_NOT_EQUAL hn_8
  have O_LESS : Fld s s.heap w_LESS "java/lang/Enum" "ordinal" "I" (.int (2 : Int32)) := own_fld_of ev_LESS hn_12
  have O_LESS_OR_EQUAL : Fld s s.heap w_LESS_OR_EQUAL "java/lang/Enum" "ordinal" "I" (.int (3 : Int32)) := own_fld_of ev_LESS_OR_EQUAL hn_16
  have O_GREATER : Fld s s.heap w_GREATER "java/lang/Enum" "ordinal" "I" (.int (4 : Int32)) := own_fld_of ev_GREATER hn_20
  have O_GREATER_OR_EQUAL : Fld s s.heap w_GREATER_OR_EQUAL "java/lang/Enum" "ordinal" "I" (.int (5 : Int32)) := own_fld_of ev_GREATER_OR_EQUAL hn_23
  obtain ⟨n, o, h1, h2, h3, _, L, rfl, ⟨rfl, N⟩, hq⟩ := rm0 l s _ hw tables_1 i0 w_EQUAL w_NOT_EQUAL w_LESS w_LESS_OR_EQUAL w_GREATER w_GREATER_OR_EQUAL s.heap s.heap.size (Nat.le_refl _) S_EQUAL S_NOT_EQUAL S_LESS S_LESS_OR_EQUAL S_GREATER S_GREATER_OR_EQUAL E_EQUAL E_NOT_EQUAL E_LESS E_LESS_OR_EQUAL E_GREATER E_GREATER_OR_EQUAL O_EQUAL O_NOT_EQUAL O_LESS O_LESS_OR_EQUAL O_GREATER O_GREATER_OR_EQUAL p e ha hc hk s m _ below hf ((Spec.applies_iff_loose hf).mp happ).1 ⟨rfl, State.Warmed39.refl s, rfl⟩ trivial
  refine ⟨n, _, h1, h2, h3, hpost _ _ _ _ _ _ ⟨Cond.after_iff.mpr rfl, Cond.after_iff.mpr (eq_i res_at (Term.int_eval (1)) rfl), trivial⟩ ⟨hq.1, hq.2.1, (hq.2.2.sift fun y hy => Or.inr (N y hy)).mono (by decide) (by decide)⟩⟩
theorem main_1_1 : Claimed_1_1 := comes_1 fun _ _ _ _ _ _ h hF => ⟨h.1, hF⟩
theorem main_1_2 : Claimed_1_2 := comes_1 fun _ _ _ _ _ _ h hF => ⟨h.2.1, hF⟩
end Jvm.Pilot.@@N@@
namespace Jvm.Pilot.@@N@@
open Jvm Jvm.ClassFile Sem Op Lib Jvm.Free Jvm.Stand Jvm.Pilot.@@N@@.Jvm.D
/-! MADE BY PROGRAM (witnessworld.py) out of the Statement's table words and the real class files: 12 classes; the members and pool entries that the words name. The judged class is class 1, her method 1. -/
namespace start1
open Jvm.ClassFile
def u (s : String) : CpInfo := .utf8 (stringToUtf16 s)
/-- a pool by its gaps: so many unusable entries, then the entry; so many at the end -/
def gap : Nat → List CpInfo → List CpInfo
  | 0, r => r
  | n + 1, r => .unusable :: gap n r
def poolList (es : List (Nat × CpInfo)) (last : Nat) : List CpInfo := es.foldr (fun e r => gap e.1 (e.2 :: r)) (gap last [])
def pool (es : List (Nat × CpInfo)) (last : Nat) : Array CpInfo := ⟨poolList es last⟩
def fileOf (pool : Array CpInfo) (this : Nat) (attrs : Array Attribute := #[]) (ms : Array MethodInfo := #[]) (fl : Nat := 33) (sup : Nat := 0) (ifs : Array Nat := #[]) (fds : Array FieldInfo := #[]) : ClassFile where
  minorVersion := 0
  majorVersion := 65
  constantPool := pool
  accessFlags := fl
  thisClass := this
  superClass := sup
  interfaces := ifs
  fields := fds
  methods := ms
  attributes := attrs
def plain (name : String) (sup : Option ClassId) : Class where
  name := name
  kind := .ordinary
  loader := none
  accessFlags := 33
  super := sup
  interfaces := #[]
  cf := none
  fields := #[]
  methods := #[]
  instanceTypes := #[]
  staticTypes := #[]
  resolved := #[]
  callSites := []
  init := .initialized
  statics := none
  mirror := none

def pool0 : Array CpInfo := pool [(5, u "<init>"), (0, u "()V"), (1, .class_ 10), (1, u "java/lang/Object")] 113

def k0m0 : Method := { name := "<init>", desc := "()V", sig := { parameters := [], returnType := none }, accessFlags := 1, code := none }
/-- java/lang/Object -/
def k0 : Class := { plain "java/lang/Object" none with
  accessFlags := 33
  interfaces := #[]
  cf := some (fileOf pool0 8 #[] #[{ accessFlags := 1, nameIndex := 5, descriptorIndex := 6, attributes := #[] }] 33 0 #[] #[])
  fields := #[]
  methods := #[k0m0]
  instanceTypes := #[]
  staticTypes := #[]
  resolved := Array.replicate 124 none
  statics := none }

def pool1 : Array CpInfo := pool [(2, .class_ 4), (1, u "java/lang/Object"), (0, u "<init>"), (0, u "()V"), (0, .fieldref 8 9), (0, .class_ 10), (0, .nameAndType 11 12), (0, u "com/example/reckonmill/reckonmill/lib/model/tree/Comparison"), (0, u "EQUAL"), (0, u "Lcom/example/reckonmill/reckonmill/lib/model/tree/Comparison;"), (0, .methodref 14 15), (0, .class_ 16), (0, .nameAndType 17 18), (0, u "com/example/reckonmill/reckonmill/lib/model/tree/ComparisonHolds5PinLaw"), (0, u "agrees"), (0, u "(Lcom/example/reckonmill/reckonmill/lib/model/tree/Comparison;III)Z"), (0, .fieldref 8 20), (0, .nameAndType 21 12), (0, u "NOT_EQUAL"), (0, .fieldref 8 23), (0, .nameAndType 24 12), (0, u "LESS"), (0, .fieldref 8 26), (0, .nameAndType 27 12), (0, u "LESS_OR_EQUAL"), (0, .fieldref 8 29), (0, .nameAndType 30 12), (0, u "GREATER"), (0, .fieldref 8 32), (0, .nameAndType 33 12), (0, u "GREATER_OR_EQUAL"), (0, .methodref 8 35), (0, .nameAndType 36 37), (0, u "holds"), (0, u "(I)Z"), (2, u "law")] 3

def k1m0 : Method := { name := "<init>", desc := "()V", sig := { parameters := [], returnType := none }, accessFlags := 2, code := none }
def k1c1 : Code := { maxStack := 4, maxLocals := 2, code := code, exceptionTable := #[], attributes := #[] }
def k1m1 : Method := { name := "law", desc := "(I)Z", sig := { parameters := [.int], returnType := some .boolean }, accessFlags := 9, code := some k1c1 }
def k1c2 : Code := { maxStack := 2, maxLocals := 5, code := method_3_code, exceptionTable := #[], attributes := #[] }
def k1m2 : Method := { name := "agrees", desc := "(Lcom/example/reckonmill/reckonmill/lib/model/tree/Comparison;III)Z", sig := { parameters := [(.object "com/example/reckonmill/reckonmill/lib/model/tree/Comparison"), .int, .int, .int], returnType := some .boolean }, accessFlags := 10, code := some k1c2 }
/-- com/example/reckonmill/reckonmill/lib/model/tree/ComparisonHolds5PinLaw -/
def k1 : Class := { plain "com/example/reckonmill/reckonmill/lib/model/tree/ComparisonHolds5PinLaw" (some 0) with
  accessFlags := 49
  interfaces := #[]
  cf := some (fileOf pool1 14 #[] #[{ accessFlags := 2, nameIndex := 5, descriptorIndex := 6, attributes := #[] }, { accessFlags := 9, nameIndex := 40, descriptorIndex := 37, attributes := #[] }, { accessFlags := 10, nameIndex := 17, descriptorIndex := 18, attributes := #[] }] 49 2 #[] #[])
  fields := #[]
  methods := #[k1m0, k1m1, k1m2]
  instanceTypes := #[]
  staticTypes := #[]
  resolved := Array.replicate 44 none
  statics := none }

def pool2 : Array CpInfo := pool [(1, .class_ 2), (0, u "java/lang/constant/Constable"), (0, .class_ 4), (0, u "java/lang/Object")] 6

/-- java/lang/constant/Constable -/
def k2 : Class := { plain "java/lang/constant/Constable" (some 0) with
  accessFlags := 1537
  interfaces := #[]
  cf := some (fileOf pool2 1 #[] #[] 1537 3 #[] #[])
  fields := #[]
  methods := #[]
  instanceTypes := #[]
  staticTypes := #[]
  resolved := Array.replicate 11 none
  statics := none }

def pool3 : Array CpInfo := pool [(1, .class_ 2), (0, u "java/lang/Comparable"), (0, .class_ 4), (0, u "java/lang/Object")] 7

/-- java/lang/Comparable -/
def k3 : Class := { plain "java/lang/Comparable" (some 0) with
  accessFlags := 1537
  interfaces := #[]
  cf := some (fileOf pool3 1 #[] #[] 1537 3 #[] #[])
  fields := #[]
  methods := #[]
  instanceTypes := #[]
  staticTypes := #[]
  resolved := Array.replicate 12 none
  statics := none }

def pool4 : Array CpInfo := pool [(1, .class_ 2), (0, u "java/io/Serializable"), (0, .class_ 4), (0, u "java/lang/Object")] 2

/-- java/io/Serializable -/
def k4 : Class := { plain "java/io/Serializable" (some 0) with
  accessFlags := 1537
  interfaces := #[]
  cf := some (fileOf pool4 1 #[] #[] 1537 3 #[] #[])
  fields := #[]
  methods := #[]
  instanceTypes := #[]
  staticTypes := #[]
  resolved := Array.replicate 7 none
  statics := none }

def pool5 : Array CpInfo := pool [(2, .class_ 4), (1, u "java/lang/Enum"), (0, u "name"), (0, u "Ljava/lang/String;"), (0, .fieldref 2 8), (0, .nameAndType 9 10), (0, u "ordinal"), (0, u "I"), (1, .class_ 14), (1, u "java/lang/Object"), (4, u "hash"), (86, .class_ 108), (1, u "java/lang/Enum$EnumDesc"), (2, .class_ 112), (0, u "java/lang/constant/Constable"), (0, .class_ 114), (0, u "java/lang/Comparable"), (0, .class_ 116), (0, u "java/io/Serializable"), (9, u "()I")] 77

def k5c0 : Code := { maxStack := 1, maxLocals := 1, code := jdk_37_method_2_code, exceptionTable := #[], attributes := #[] }
def k5m0 : Method := { name := "ordinal", desc := "()I", sig := { parameters := [], returnType := some .int }, accessFlags := 17, code := some k5c0 }
/-- java/lang/Enum -/
def k5 : Class := { plain "java/lang/Enum" (some 0) with
  accessFlags := 1057
  interfaces := #[2, 3, 4]
  cf := some (fileOf pool5 2 #[.nestMembers #[106]] #[{ accessFlags := 17, nameIndex := 9, descriptorIndex := 126, attributes := #[] }] 1057 12 #[111, 113, 115] #[{ accessFlags := 18, nameIndex := 5, descriptorIndex := 6, attributes := #[] }, { accessFlags := 18, nameIndex := 9, descriptorIndex := 10, attributes := #[] }, { accessFlags := 2, nameIndex := 19, descriptorIndex := 10, attributes := #[] }])
  fields := #[{ name := "name", type := (.object "java/lang/String"), accessFlags := 18, slot := 0, constantValue := 0 }, { name := "ordinal", type := .int, accessFlags := 18, slot := 1, constantValue := 0 }, { name := "hash", type := .int, accessFlags := 2, slot := 2, constantValue := 0 }]
  methods := #[k5m0]
  instanceTypes := #[(.object "java/lang/String"), .int, .int]
  staticTypes := #[]
  resolved := Array.replicate 204 none
  statics := none }

def pool6 : Array CpInfo := pool [(1, .class_ 2), (0, u "com/example/reckonmill/reckonmill/lib/model/tree/Comparison"), (2, u "EQUAL"), (0, u "Lcom/example/reckonmill/reckonmill/lib/model/tree/Comparison;"), (2, u "NOT_EQUAL"), (2, u "LESS"), (2, u "LESS_OR_EQUAL"), (2, u "GREATER"), (2, u "GREATER_OR_EQUAL"), (2, u "$VALUES"), (0, u "[Lcom/example/reckonmill/reckonmill/lib/model/tree/Comparison;"), (6, .class_ 34), (1, u "java/lang/Enum"), (8, u "operator"), (0, u "Ljava/lang/String;"), (2, u "BY_OPERATOR"), (0, u "Ljava/util/Map;"), (12, .methodref 1 62), (0, .nameAndType 63 64), (0, u "ordinal"), (0, u "()I"), (65, u "holds"), (0, u "(I)Z")] 28

def k6c0 : Code := { maxStack := 1, maxLocals := 3, code := prog_17_method_5_code, exceptionTable := #[], attributes := #[] }
def k6m0 : Method := { name := "holds", desc := "(I)Z", sig := { parameters := [.int], returnType := some .boolean }, accessFlags := 0, code := some k6c0 }
/-- com/example/reckonmill/reckonmill/lib/model/tree/Comparison -/
def k6 : Class := { plain "com/example/reckonmill/reckonmill/lib/model/tree/Comparison" (some 5) with
  accessFlags := 16432
  interfaces := #[]
  cf := some (fileOf pool6 1 #[] #[{ accessFlags := 0, nameIndex := 130, descriptorIndex := 131, attributes := #[] }] 16432 32 #[] #[{ accessFlags := 16409, nameIndex := 5, descriptorIndex := 6, attributes := #[] }, { accessFlags := 16409, nameIndex := 9, descriptorIndex := 6, attributes := #[] }, { accessFlags := 16409, nameIndex := 12, descriptorIndex := 6, attributes := #[] }, { accessFlags := 16409, nameIndex := 15, descriptorIndex := 6, attributes := #[] }, { accessFlags := 16409, nameIndex := 18, descriptorIndex := 6, attributes := #[] }, { accessFlags := 16409, nameIndex := 21, descriptorIndex := 6, attributes := #[] }, { accessFlags := 26, nameIndex := 47, descriptorIndex := 48, attributes := #[] }, { accessFlags := 18, nameIndex := 43, descriptorIndex := 44, attributes := #[] }, { accessFlags := 4122, nameIndex := 24, descriptorIndex := 25, attributes := #[] }])
  fields := #[{ name := "EQUAL", type := (.object "com/example/reckonmill/reckonmill/lib/model/tree/Comparison"), accessFlags := 16409, slot := 0, constantValue := 0 }, { name := "NOT_EQUAL", type := (.object "com/example/reckonmill/reckonmill/lib/model/tree/Comparison"), accessFlags := 16409, slot := 1, constantValue := 0 }, { name := "LESS", type := (.object "com/example/reckonmill/reckonmill/lib/model/tree/Comparison"), accessFlags := 16409, slot := 2, constantValue := 0 }, { name := "LESS_OR_EQUAL", type := (.object "com/example/reckonmill/reckonmill/lib/model/tree/Comparison"), accessFlags := 16409, slot := 3, constantValue := 0 }, { name := "GREATER", type := (.object "com/example/reckonmill/reckonmill/lib/model/tree/Comparison"), accessFlags := 16409, slot := 4, constantValue := 0 }, { name := "GREATER_OR_EQUAL", type := (.object "com/example/reckonmill/reckonmill/lib/model/tree/Comparison"), accessFlags := 16409, slot := 5, constantValue := 0 }, { name := "BY_OPERATOR", type := (.object "java/util/Map"), accessFlags := 26, slot := 6, constantValue := 0 }, { name := "operator", type := (.object "java/lang/String"), accessFlags := 18, slot := 3, constantValue := 0 }, { name := "$VALUES", type := (.array (.object "com/example/reckonmill/reckonmill/lib/model/tree/Comparison")), accessFlags := 4122, slot := 7, constantValue := 0 }]
  methods := #[k6m0]
  instanceTypes := #[(.object "java/lang/String"), .int, .int, (.object "java/lang/String")]
  staticTypes := #[(.object "com/example/reckonmill/reckonmill/lib/model/tree/Comparison"), (.object "com/example/reckonmill/reckonmill/lib/model/tree/Comparison"), (.object "com/example/reckonmill/reckonmill/lib/model/tree/Comparison"), (.object "com/example/reckonmill/reckonmill/lib/model/tree/Comparison"), (.object "com/example/reckonmill/reckonmill/lib/model/tree/Comparison"), (.object "com/example/reckonmill/reckonmill/lib/model/tree/Comparison"), (.object "java/util/Map"), (.array (.object "com/example/reckonmill/reckonmill/lib/model/tree/Comparison"))]
  resolved := Array.replicate 160 none
  statics := some 0 }

def pool7 : Array CpInfo := pool [(1, u "java/lang/Cloneable"), (0, .class_ 1), (0, u "java/lang/Object"), (0, .class_ 3)] 3

/-- java/lang/Cloneable -/
def k7 : Class := { plain "java/lang/Cloneable" (some 0) with
  accessFlags := 1537
  interfaces := #[]
  cf := some (fileOf pool7 2 #[] #[] 1537 4 #[] #[])
  fields := #[]
  methods := #[]
  instanceTypes := #[]
  staticTypes := #[]
  resolved := Array.replicate 8 none
  statics := none }

/-- the primitive byte -/
def k8 : Class := { plain "byte" none with kind := .primitive 'B', accessFlags := 0x411 }
/-- [B -/
def k9 : Class := { plain "[B" (some 0) with kind := .array 8 .byte, interfaces := #[7, 4], accessFlags := 1041 }

/-- the primitive int -/
def k10 : Class := { plain "int" none with kind := .primitive 'I', accessFlags := 0x411 }
/-- [I -/
def k11 : Class := { plain "[I" (some 0) with kind := .array 10 .int, interfaces := #[7, 4], accessFlags := 1041 }

def heap : Heap := #[{ cls := 6, slots := #[.ref 1, .ref 2, .ref 3, .ref 4, .ref 5, .ref 6, .null, .null], vm := .statics 6 },
  { cls := 6, slots := #[.null, .int 0, .int 0, .null], vm := .none },
  { cls := 6, slots := #[.null, .int 1, .int 0, .null], vm := .none },
  { cls := 6, slots := #[.null, .int 2, .int 0, .null], vm := .none },
  { cls := 6, slots := #[.null, .int 3, .int 0, .null], vm := .none },
  { cls := 6, slots := #[.null, .int 4, .int 0, .null], vm := .none },
  { cls := 6, slots := #[.null, .int 5, .int 0, .null], vm := .none }]
def classes : Array Class := #[k0, k1, k2, k3, k4, k5, k6, k7, k8, k9, k10, k11]
def interned : List (Array UInt16 × Addr) := []
def slotsUsed : Nat := 32
def theMethod : MethodId := ⟨1, 1⟩
def args0 : Array Value := #[.int 7]
def aboutOver (below : List Frame) : State where
  vm := { classes := classes, interned := interned.toArray }
  heap := heap
  slotsUsed := slotsUsed
  threads := #[{ frames := .invoking theMethod args0 :: below }]
def below0 : List Frame := [.native { method := ⟨0, 0⟩, args := #[] }]
def about1 : State := aboutOver below0
def p0 : Program := .bare "" "" ""
def e0 : Env := launch0.env 0 0 0
theorem w_frames : about1.frames = Frame.invoking theMethod args0 :: below0 := rfl
set_option maxRecDepth 65536 in
theorem w_args : argsFit about1.vm theMethod args0 = true := by decide +kernel
set_option maxRecDepth 65536 in
theorem w_heap : heapFits about1 = true := by decide +kernel
set_option maxRecDepth 65536 in
theorem w_runnable : about1.curStatus? = some .runnable := by decide +kernel
set_option maxRecDepth 65536 in
theorem w_alone : about1.alone = true := by decide +kernel
set_option maxRecDepth 65536 in
theorem w_named : about1.methodNamed? x = some theMethod := by decide +kernel
set_option maxRecDepth 65536 in
theorem w_hears : about1.hears theMethod below0 = true := by decide +kernel
set_option maxRecDepth 65536 in
theorem w_ripe : about1.ripe theMethod args0 below0 = true := by decide +kernel
theorem w_running : about1.status = .running := rfl
set_option maxRecDepth 65536 in
theorem w_room : about1.hasRoom e0.platform room_1 = true :=
  launch0.hasRoom_least _ room_1 (by decide +kernel) (by decide +kernel) (by decide +kernel) (by decide +kernel) (by decide +kernel) (by decide +kernel)
theorem allAtoms_all (ts : List Jvm.Cond) (a : Array Jvm.Value) (st : Jvm.State) : (allAtoms ts).before a st = ts.all (fun c => c.before a st) := by
  induction ts with
  | nil => rfl
  | cons c t ih =>
    show (Jvm.Cond.and c (allAtoms t)).before a st = _
    rw [Jvm.Cond.before_and, ih, List.all_cons]
def words1 : List Jvm.Cond := Jvm.Cond.code x code maxLocals ret :: tables_1
/-- a 'code' word, met by the world's own term for the bytes: nothing is compared byte by byte -/
theorem code_word {y : MethodName} {bytes : ByteArray} {mx : Nat} {rt : Option FieldType} {a : Array Value} {s : State} {m : MethodId} {meth : Method} {c : Code} (h1 : s.methodNamed? y = some m) (h2 : s.vm.method? m = some meth) (h3 : meth.code = some c) (h4 : c.code = bytes)
    (h5 : (c.maxLocals == mx && c.exceptionTable.isEmpty && decide (c.maxStack ≤ mostOperands) && decide (meth.sig.returnType = rt) && !meth.locks && decide (parseMethodDescriptor y.desc = some meth.sig)) = true) : (Jvm.Cond.code y bytes mx rt).before a s = true := by
  simp only [Bool.and_eq_true, beq_iff_eq, Bool.not_eq_true', decide_eq_true_eq] at h5
  obtain ⟨⟨⟨⟨⟨g1, g2⟩, g3⟩, g4⟩, g5⟩, g6⟩ := h5
  simp [Cond.before, Cond.holds, Cond.value, h1, h2, h3, h4, g1, g2, g3, g4, g5, g6]
def isCode : Jvm.Cond → Bool
  | .code _ _ _ _ => true
  | _ => false
theorem all_split {L : List Jvm.Cond} {P : Jvm.Cond → Bool} (h1 : L.all (fun c => isCode c || P c) = true) (h2 : ∀ c ∈ L.filter isCode, P c = true) : L.all P = true := by
  refine List.all_eq_true.mpr fun c hc => ?_
  have h := List.all_eq_true.mp h1 c hc
  rcases Bool.eq_false_or_eq_true (isCode c) with hi | hi
  · exact h2 c (List.mem_filter.mpr ⟨hc, hi⟩)
  · simpa [hi] using h
set_option maxRecDepth 65536 in
theorem w_c0 : (Jvm.Cond.code x code maxLocals ret).before args0 about1 = true := code_word (m := ⟨1, 1⟩) (meth := k1m1) (c := k1c1) (by decide +kernel) rfl rfl rfl (by decide +kernel)
set_option maxRecDepth 65536 in
theorem w_c1 : (Jvm.Cond.code ({ cls := "com/example/reckonmill/reckonmill/lib/model/tree/ComparisonHolds5PinLaw", name := "agrees", desc := "(Lcom/example/reckonmill/reckonmill/lib/model/tree/Comparison;III)Z" } : Jvm.MethodName) method_3_code (5 : Nat) (Option.some Jvm.ClassFile.FieldType.boolean)).before args0 about1 = true := code_word (m := ⟨1, 2⟩) (meth := k1m2) (c := k1c2) (by decide +kernel) rfl rfl rfl (by decide +kernel)
set_option maxRecDepth 65536 in
theorem w_c2 : (Jvm.Cond.code ({ cls := "com/example/reckonmill/reckonmill/lib/model/tree/Comparison", name := "holds", desc := "(I)Z" } : Jvm.MethodName) prog_17_method_5_code (3 : Nat) (Option.some Jvm.ClassFile.FieldType.boolean)).before args0 about1 = true := code_word (m := ⟨6, 0⟩) (meth := k6m0) (c := k6c0) (by decide +kernel) rfl rfl rfl (by decide +kernel)
set_option maxRecDepth 65536 in
theorem w_c3 : (Jvm.Cond.code ({ cls := "java/lang/Enum", name := "ordinal", desc := "()I" } : Jvm.MethodName) jdk_37_method_2_code (1 : Nat) (Option.some Jvm.ClassFile.FieldType.int)).before args0 about1 = true := code_word (m := ⟨5, 0⟩) (meth := k5m0) (c := k5c0) (by decide +kernel) rfl rfl rfl (by decide +kernel)
def codes1 : List Jvm.Cond := [Jvm.Cond.code x code maxLocals ret, Jvm.Cond.code ({ cls := "com/example/reckonmill/reckonmill/lib/model/tree/ComparisonHolds5PinLaw", name := "agrees", desc := "(Lcom/example/reckonmill/reckonmill/lib/model/tree/Comparison;III)Z" } : Jvm.MethodName) method_3_code (5 : Nat) (Option.some Jvm.ClassFile.FieldType.boolean), Jvm.Cond.code ({ cls := "com/example/reckonmill/reckonmill/lib/model/tree/Comparison", name := "holds", desc := "(I)Z" } : Jvm.MethodName) prog_17_method_5_code (3 : Nat) (Option.some Jvm.ClassFile.FieldType.boolean), Jvm.Cond.code ({ cls := "java/lang/Enum", name := "ordinal", desc := "()I" } : Jvm.MethodName) jdk_37_method_2_code (1 : Nat) (Option.some Jvm.ClassFile.FieldType.int)]
set_option maxRecDepth 65536 in
theorem codes_eq : words1.filter isCode = codes1 := rfl
theorem w_codes : ∀ c ∈ words1.filter isCode, c.before args0 about1 = true := by
  rw [codes_eq]
  intro c hc
  simp only [codes1, List.mem_cons, List.not_mem_nil, or_false] at hc
  rcases hc with rfl | rfl | rfl | rfl
  · exact w_c0
  · exact w_c1
  · exact w_c2
  · exact w_c3
set_option maxRecDepth 65536 in
theorem w_t1 : (words1.take 24).all (fun c => isCode c || c.before args0 about1) = true := by decide +kernel
set_option maxRecDepth 65536 in
theorem w_t2 : (words1.drop 24).all (fun c => isCode c || c.before args0 about1) = true := by decide +kernel
theorem w_tables : (allAtoms (Jvm.Cond.code x code maxLocals ret :: tables_1)).before args0 about1 = true := by
  rw [allAtoms_all]
  show words1.all (fun c => c.before args0 about1) = true
  refine all_split ?_ w_codes
  rw [← List.take_append_drop 24 words1, List.all_append, w_t1, w_t2]
  rfl
set_option maxRecDepth 65536 in
theorem w_case : (Jvm.Cond.and given_1 narrow_1).before args0 about1 = true := by decide +kernel
theorem w_applies : (headSpec (Jvm.Cond.code x code maxLocals ret :: tables_1) room_1).applies x e0.platform about1 = true :=
  (Spec.applies_iff w_frames).mpr ⟨w_running, w_runnable, w_alone, w_named, w_hears, w_ripe, w_room, w_tables⟩
theorem atStart : AtStart classFile x code maxLocals ret World_1 tables_1 room_1 Calls_1 rest_1 Pre_1 launch0 p0 e0 about1 theMethod args0 below0 :=
  ⟨lists_1, trivial, launch0.admits_env _ _ _, launch0.least_env, fairChoices_fair.cas, fairChoices_fair.clock, w_frames, w_args, w_heap, w_applies, trivial, trivial, w_case⟩
end start1
theorem witness_1 : WitnessClaimed_1 := ⟨start1.p0, start1.e0, start1.about1, start1.theMethod, start1.args0, start1.below0, start1.atStart⟩
end Jvm.Pilot.@@N@@
