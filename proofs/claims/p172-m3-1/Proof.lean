import JvmDerived
import JvmDerived.Pilot.@@N@@Statement
import JvmDerived.Pilot.@@N@@Code
set_option linter.unusedVariables false
set_option linter.unusedSimpArgs false
namespace Jvm.RoadKit
open Sem ClassFile Op Lib Jvm.Stand Jvm.Free Jvm.LawKit
section New
variable {p : Program} {l : Launch} {e : Env} {R : Room} {s : State} {m : MethodId} {args : Array Value} {below : List Frame} {meth : Method} {c : Code} {T : State} {locs : List Loc} {cells slots : Nat}
theorem retI (X : Stand p l e R s m args below meth c T locs cells slots) (hx : p.tables.exec = Jvm.exec) {pc : Nat} {Ls : Array Slot} {z : Int32} {rest : List Value} (hret : meth.sig.returnType = some .int) (hd : decode c.code pc = .ok (.ireturn, 1)) {fs : List Frame}
    (hl : ∀ (f : JFrame) (acts : List Action), f.method = m → f.locked = none → f.entered = [] → (doReturn e (T.setTop f) acts (some (.int z))).1 = T.setFrames fs) : Steps p.tables e below (T.setTop (mkF m pc Ls (.int z :: rest))) (T.setFrames fs) := by
  have hm' : T.vm.method? m = some meth := X.method'
  have hn : narrow .int (.int z) = .int z := rfl
  show Steps p.tables e below (T.setTop { method := m, pc := pc, locals := Ls, stack := _ :: rest, locked := none }) _
  jvm_step X.here [X.here.top, hx, hd, hm', hret, hn]
  first | (intro acts; rw [hl _ acts rfl rfl rfl]) | rw [hl _ _ rfl rfl rfl]
  exact Steps.refl _
end New
end Jvm.RoadKit
namespace Jvm.Pilot.@@N@@
open Jvm Jvm.ClassFile Sem Op Lib Jvm.Free Jvm.Stand Jvm.LawKit Jvm.RoadKit Bundle Jvm.Pilot.@@N@@.Jvm.D
section Own
variable {p : Program} {l : Launch} {e : Env} {R : Room} {s : State} {m : MethodId} {args : Array Value} {below : List Frame} {meth : Method} {c : Code} {T T' : State} {locs : List Loc} {cells slots cc nn : Nat} {f f' : JFrame} {Q : Option Value → Heap → List Loc → Prop} {Z : State} {h h' : Heap} {ws : List Addr}
/-- from this state the body comes to its end, and what it leaves is as Q says -/
def own_Ends (p : Program) (e : Env) (below : List Frame) (s : State) (Q : Option Value → Heap → List Loc → Prop) (cc nn : Nat) (T : State) (f : JFrame) : Prop :=
  ∃ s₂ o, Steps p.tables e below (T.setTop f) s₂ ∧ s₂.status = .running ∧ Ended s₂ below o ∧ ∃ v L, o = .returned v ∧ Q v s₂.heap L ∧ FrameEnd s o s₂ L cc nn
theorem own_go (k : ∀ t, Steps p.tables e below (T'.setTop f') t → Steps p.tables e below (T.setTop f) t) (h : own_Ends p e below s Q cc nn T' f') : own_Ends p e below s Q cc nn T f := by
  obtain ⟨s₂, o, h1, h2⟩ := h
  exact ⟨s₂, o, k _ h1, h2⟩
theorem own_ret (X : Stand p l e R s m args below meth c T locs cells slots) {v : Option Value} (hv : meth.sig.returnType = none → v = none) (hlk : meth.locks = false)
    (st : ∀ fs, (∀ (f : JFrame) (acts : List Action), f.method = m → f.locked = none → f.entered = [] → (doReturn e (T.setTop f) acts v).1 = T.setFrames fs) → Steps p.tables e below (T.setTop f) (T.setFrames fs)) (hQ : Q v T.heap locs) (h1 : cells ≤ cc) (h2 : slots ≤ nn) :
    own_Ends p e below s Q cc nn T f := by
  obtain ⟨fs, hr, hrun, hended, hW, hsame⟩ := X.leave (v := v) hv hlk
  exact ⟨_, _, st fs hr, hrun, hended, _, _, rfl, hQ, ⟨_, rfl⟩, hW, hsame.mono h1 h2⟩
theorem own_retL (X : Stand p l e R s m args below meth c T locs cells slots) (hx : p.tables.exec = Jvm.exec) {pc : Nat} {Ls : Array Slot} {z : Int64} {rest : List Value} (hret : meth.sig.returnType = some .long) (hd : decode c.code pc = .ok (.lreturn, 1)) {fs : List Frame}
    (hl : ∀ (f : JFrame) (acts : List Action), f.method = m → f.locked = none → f.entered = [] → (doReturn e (T.setTop f) acts (some (.long z))).1 = T.setFrames fs) : Steps p.tables e below (T.setTop (mkF m pc Ls (.long z :: rest))) (T.setFrames fs) :=
  retOut X hx hret rfl (Or.inr (Or.inl ⟨rfl, rfl, _, rfl⟩)) hd hl
theorem own_retD (X : Stand p l e R s m args below meth c T locs cells slots) (hx : p.tables.exec = Jvm.exec) {pc : Nat} {Ls : Array Slot} {z : UInt64} {rest : List Value} (hret : meth.sig.returnType = some .double) (hd : decode c.code pc = .ok (.dreturn, 1)) {fs : List Frame}
    (hl : ∀ (f : JFrame) (acts : List Action), f.method = m → f.locked = none → f.entered = [] → (doReturn e (T.setTop f) acts (some (.double z))).1 = T.setFrames fs) : Steps p.tables e below (T.setTop (mkF m pc Ls (.double z :: rest))) (T.setFrames fs) :=
  retOut X hx hret rfl (Or.inr (Or.inr (Or.inl ⟨rfl, rfl, _, rfl⟩))) hd hl
theorem own_retA (X : Stand p l e R s m args below meth c T locs cells slots) (hx : p.tables.exec = Jvm.exec) {pc : Nat} {Ls : Array Slot} {w : Value} {t : FieldType} {rest : List Value} (hret : meth.sig.returnType = some t) (ht : t.isReference = true) (hw : w.isRef = true) (hd : decode c.code pc = .ok (.areturn, 1)) {fs : List Frame}
    (hl : ∀ (f : JFrame) (acts : List Action), f.method = m → f.locked = none → f.entered = [] → (doReturn e (T.setTop f) acts (some w)).1 = T.setFrames fs) : Steps p.tables e below (T.setTop (mkF m pc Ls (w :: rest))) (T.setFrames fs) :=
  retOut X hx hret (by cases t <;> first | rfl | (cases ht; done)) (Or.inr (Or.inr (Or.inr (Or.inr ⟨rfl, ht, hw⟩)))) hd hl
theorem own_lc_lt {a b : Int64} : lcmpW a b < 0 ↔ a < b := by
  simp only [lcmpW, gt_iff_lt]
  by_cases h1 : b < a
  · rw [if_pos h1]; exact ⟨fun q => absurd q (by decide), fun q => absurd q (by rw [Int64.lt_iff_toInt_lt] at *; omega)⟩
  · rw [if_neg h1]
    by_cases h2 : a = b
    · rw [if_pos h2]; exact ⟨fun q => absurd q (by decide), fun q => absurd q (by rw [h2, Int64.lt_iff_toInt_lt]; omega)⟩
    · rw [if_neg h2]; exact ⟨fun _ => by rw [Int64.lt_iff_toInt_lt] at *; rw [← Int64.toInt_inj] at h2; omega, fun _ => by decide⟩
theorem own_lc_eq {a b : Int64} : lcmpW a b = 0 ↔ a = b := by
  simp only [lcmpW, gt_iff_lt]
  by_cases h1 : b < a
  · rw [if_pos h1]; exact ⟨fun q => absurd q (by decide), fun q => absurd h1 (by rw [q, Int64.lt_iff_toInt_lt]; omega)⟩
  · rw [if_neg h1]
    by_cases h2 : a = b
    · rw [if_pos h2]; exact ⟨fun _ => h2, fun _ => rfl⟩
    · rw [if_neg h2]; exact ⟨fun q => absurd q (by decide), fun q => absurd q h2⟩
theorem own_lc_gt {a b : Int64} : 0 < lcmpW a b ↔ b < a := by
  simp only [lcmpW, gt_iff_lt]
  by_cases h1 : b < a
  · rw [if_pos h1]; exact ⟨fun _ => h1, fun _ => by decide⟩
  · rw [if_neg h1]
    by_cases h2 : a = b
    · rw [if_pos h2]; exact ⟨fun q => absurd q (by decide), fun q => absurd q h1⟩
    · rw [if_neg h2]; exact ⟨fun q => absurd q (by decide), fun q => absurd q h1⟩
section Arr
variable {target : State} {g : JFrame} {a : Addr} {kc : ClassId} {ty : FieldType} {z : Int32} {vs : List Value} {dv : Value}
theorem own_alen (X : Stand p l e R s m args below meth c T locs cells slots) (hx : p.tables.exec = Jvm.exec) (hZ : Z.Warmed39 s.vm) (eT : T.heap = h) (V : Arv Z h a kc ty z vs dv) (hg : g.method = m) {rest : List Value} (hs : g.stack = .ref a :: rest) (hd : decode c.code g.pc = .ok (.arraylength, 1))
    (hr : Steps p.tables e below (T.setTop { g with pc := g.pc + 1, stack := .int z :: rest }) target) : Steps p.tables e below (T.setTop g) target := by
  obtain ⟨cl, Ar, -, Sz, Ng, -, -⟩ := V
  exact X.arraylength hx (by rw [eT]; exact Ar.1) (State.isArrayOf_alike hZ.alike Ar.2.1) hg hs hd _ (by rw [len_of Sz Ng]; exact hr)
theorem own_ldI (X : Stand p l e R s m args below meth c T locs cells slots) (hx : p.tables.exec = Jvm.exec) (hZ : Z.Warmed39 s.vm) (eT : T.heap = h) (V : Arv Z h a kc .int z vs dv) {j : Int32} {x : Int32} (hin : ¬ j < 0 ∧ j < z) (hv : vs.getD j.toNatClampNeg dv = .int x) (hg : g.method = m) {rest : List Value} (hs : g.stack = .int j :: .ref a :: rest) (hd : decode c.code g.pc = .ok (.iaload, 1))
    (hr : Steps p.tables e below (T.setTop { g with pc := g.pc + 1, stack := .int x :: rest }) target) : Steps p.tables e below (T.setTop g) target := by
  obtain ⟨cl, Ar, -, Sz, Ng, Hs, Ft⟩ := V
  have hq := inb_of (j := j) Sz hin
  exact X.iaload hx (j := j) (v := .int x) (by rw [eT]; exact Ar.1) (State.isArrayOf_alike hZ.alike Ar.2.1) Ar.2.2 hq (Hs.at hq hv) hg hs hd _ hr
theorem own_ldB (X : Stand p l e R s m args below meth c T locs cells slots) (hx : p.tables.exec = Jvm.exec) (hZ : Z.Warmed39 s.vm) (eT : T.heap = h) (V : Arv Z h a kc .byte z vs dv) {j : Int32} {x : Int32} (hin : ¬ j < 0 ∧ j < z) (hv : vs.getD j.toNatClampNeg dv = .int x) (hg : g.method = m) {rest : List Value} (hs : g.stack = .int j :: .ref a :: rest) (hd : decode c.code g.pc = .ok (.baload, 1))
    (hr : Steps p.tables e below (T.setTop { g with pc := g.pc + 1, stack := .int x :: rest }) target) : Steps p.tables e below (T.setTop g) target := by
  obtain ⟨cl, Ar, -, Sz, Ng, Hs, Ft⟩ := V
  have hq := inb_of (j := j) Sz hin
  exact X.baloadBytes hx (j := j) (v := .int x) (by rw [eT]; exact Ar.1) (State.isArrayOf_alike hZ.alike Ar.2.1) Ar.2.2 hq (Hs.at hq hv) hg hs hd _ hr
theorem own_ldC (X : Stand p l e R s m args below meth c T locs cells slots) (hx : p.tables.exec = Jvm.exec) (hZ : Z.Warmed39 s.vm) (eT : T.heap = h) (V : Arv Z h a kc .char z vs dv) {j : Int32} {x : Int32} (hin : ¬ j < 0 ∧ j < z) (hv : vs.getD j.toNatClampNeg dv = .int x) (hg : g.method = m) {rest : List Value} (hs : g.stack = .int j :: .ref a :: rest) (hd : decode c.code g.pc = .ok (.caload, 1))
    (hr : Steps p.tables e below (T.setTop { g with pc := g.pc + 1, stack := .int x :: rest }) target) : Steps p.tables e below (T.setTop g) target := by
  obtain ⟨cl, Ar, -, Sz, Ng, Hs, Ft⟩ := V
  have hq := inb_of (j := j) Sz hin
  exact X.caload hx (j := j) (v := .int x) (by rw [eT]; exact Ar.1) (State.isArrayOf_alike hZ.alike Ar.2.1) Ar.2.2 hq (Hs.at hq hv) hg hs hd _ hr
theorem own_ldJ (X : Stand p l e R s m args below meth c T locs cells slots) (hx : p.tables.exec = Jvm.exec) (hZ : Z.Warmed39 s.vm) (eT : T.heap = h) (V : Arv Z h a kc .long z vs dv) {j : Int32} {x : Int64} (hin : ¬ j < 0 ∧ j < z) (hv : vs.getD j.toNatClampNeg dv = .long x) (hg : g.method = m) {rest : List Value} (hs : g.stack = .int j :: .ref a :: rest) (hd : decode c.code g.pc = .ok (.laload, 1))
    (hr : Steps p.tables e below (T.setTop { g with pc := g.pc + 1, stack := .long x :: rest }) target) : Steps p.tables e below (T.setTop g) target := by
  obtain ⟨cl, Ar, -, Sz, Ng, Hs, Ft⟩ := V
  have hq := inb_of (j := j) Sz hin
  exact X.laload hx (j := j) (v := .long x) (by rw [eT]; exact Ar.1) (State.isArrayOf_alike hZ.alike Ar.2.1) Ar.2.2 hq (Hs.at hq hv) hg hs hd _ hr
theorem own_ldR (X : Stand p l e R s m args below meth c T locs cells slots) (hx : p.tables.exec = Jvm.exec) (hZ : Z.Warmed39 s.vm) (eT : T.heap = h) (V : Arv Z h a kc ty z vs dv) {j : Int32} {x : Value} (hin : ¬ j < 0 ∧ j < z) (hv : vs.getD j.toNatClampNeg dv = x) (hty : ty.isReference = true) (hg : g.method = m) {rest : List Value} (hs : g.stack = .int j :: .ref a :: rest) (hd : decode c.code g.pc = .ok (.aaload, 1))
    (hr : Steps p.tables e below (T.setTop { g with pc := g.pc + 1, stack := x :: rest }) target) : Steps p.tables e below (T.setTop g) target := by
  obtain ⟨cl, Ar, -, Sz, Ng, Hs, Ft⟩ := V
  have hq := inb_of (j := j) Sz hin
  exact X.aaload hx (j := j) (v := x) (by rw [eT]; exact Ar.1) (State.isArrayOf_alike hZ.alike Ar.2.1) hty Ar.2.2 hq (Hs.at hq hv) hg hs hd _ hr
theorem own_stI (X : Stand p l e R s m args below meth c T locs cells slots) (hx : p.tables.exec = Jvm.exec) (hZ : Z.Warmed39 s.vm) (eT : T.heap = h) (V : Arv Z h a kc .int z vs dv) {j : Int32} {x : Int32} (hin : ¬ j < 0 ∧ j < z) (i : Nat) (hj : j.toNatClampNeg = i) (hi : i < vs.length) (hg : g.method = m) {rest : List Value} (hs : g.stack = .int x :: .int j :: .ref a :: rest) (hd : decode c.code g.pc = .ok (.iastore, 1)) :
    ∃ T' h', Stand p l e R s m args below meth c T' (locs ++ [⟨a, j.toNatClampNeg⟩]) cells slots ∧ T'.heap = h' ∧ Wr h h' a j.toNatClampNeg (.int x) ∧ Arv Z h' a kc .int z (vs.set i (.int x)) dv ∧ ∀ target, Steps p.tables e below (T'.setTop { g with pc := g.pc + 1, stack := rest }) target → Steps p.tables e below (T.setTop g) target := by
  obtain ⟨cl, Ar, q, Sz, Ng, Hs, Ft⟩ := V
  obtain ⟨T', h', X', e', W', st⟩ := stI X hx hZ eT Ar (j := j) (inb_of Sz hin) hg hs hd
  exact ⟨T', h', X', e', W', Arv.set Ar q Sz Ng Hs Ft rfl W' i hj hi, st⟩
theorem own_stB (X : Stand p l e R s m args below meth c T locs cells slots) (hx : p.tables.exec = Jvm.exec) (hZ : Z.Warmed39 s.vm) (eT : T.heap = h) (V : Arv Z h a kc .byte z vs dv) {j : Int32} {x : Int32} (hin : ¬ j < 0 ∧ j < z) (i : Nat) (hj : j.toNatClampNeg = i) (hi : i < vs.length) (hg : g.method = m) {rest : List Value} (hs : g.stack = .int x :: .int j :: .ref a :: rest) (hd : decode c.code g.pc = .ok (.bastore, 1)) :
    ∃ T' h', Stand p l e R s m args below meth c T' (locs ++ [⟨a, j.toNatClampNeg⟩]) cells slots ∧ T'.heap = h' ∧ Wr h h' a j.toNatClampNeg (.int (nar .byte x)) ∧ Arv Z h' a kc .byte z (vs.set i (.int (nar .byte x))) dv ∧ ∀ target, Steps p.tables e below (T'.setTop { g with pc := g.pc + 1, stack := rest }) target → Steps p.tables e below (T.setTop g) target := by
  obtain ⟨cl, Ar, q, Sz, Ng, Hs, Ft⟩ := V
  obtain ⟨T', h', X', e', W', st⟩ := stB X hx hZ eT Ar (j := j) (inb_of Sz hin) hg hs hd
  exact ⟨T', h', X', e', W', Arv.set Ar q Sz Ng Hs Ft (fits_nar_byte _) W' i hj hi, st⟩
theorem own_stC (X : Stand p l e R s m args below meth c T locs cells slots) (hx : p.tables.exec = Jvm.exec) (hZ : Z.Warmed39 s.vm) (eT : T.heap = h) (V : Arv Z h a kc .char z vs dv) {j : Int32} {x : Int32} (hin : ¬ j < 0 ∧ j < z) (i : Nat) (hj : j.toNatClampNeg = i) (hi : i < vs.length) (hg : g.method = m) {rest : List Value} (hs : g.stack = .int x :: .int j :: .ref a :: rest) (hd : decode c.code g.pc = .ok (.castore, 1)) :
    ∃ T' h', Stand p l e R s m args below meth c T' (locs ++ [⟨a, j.toNatClampNeg⟩]) cells slots ∧ T'.heap = h' ∧ Wr h h' a j.toNatClampNeg (.int (nar .char x)) ∧ Arv Z h' a kc .char z (vs.set i (.int (nar .char x))) dv ∧ ∀ target, Steps p.tables e below (T'.setTop { g with pc := g.pc + 1, stack := rest }) target → Steps p.tables e below (T.setTop g) target := by
  obtain ⟨cl, Ar, q, Sz, Ng, Hs, Ft⟩ := V
  obtain ⟨T', h', X', e', W', st⟩ := stC X hx hZ eT Ar (j := j) (inb_of Sz hin) hg hs hd
  exact ⟨T', h', X', e', W', Arv.set Ar q Sz Ng Hs Ft (fits_nar_char _) W' i hj hi, st⟩
theorem own_stJ (X : Stand p l e R s m args below meth c T locs cells slots) (hx : p.tables.exec = Jvm.exec) (hZ : Z.Warmed39 s.vm) (eT : T.heap = h) (V : Arv Z h a kc .long z vs dv) {j : Int32} {x : Int64} (hin : ¬ j < 0 ∧ j < z) (i : Nat) (hj : j.toNatClampNeg = i) (hi : i < vs.length) (hg : g.method = m) {rest : List Value} (hs : g.stack = .long x :: .int j :: .ref a :: rest) (hd : decode c.code g.pc = .ok (.lastore, 1)) :
    ∃ T' h', Stand p l e R s m args below meth c T' (locs ++ [⟨a, j.toNatClampNeg⟩]) cells slots ∧ T'.heap = h' ∧ Wr h h' a j.toNatClampNeg (.long x) ∧ Arv Z h' a kc .long z (vs.set i (.long x)) dv ∧ ∀ target, Steps p.tables e below (T'.setTop { g with pc := g.pc + 1, stack := rest }) target → Steps p.tables e below (T.setTop g) target := by
  obtain ⟨cl, Ar, q, Sz, Ng, Hs, Ft⟩ := V
  obtain ⟨T', h', X', e', W', st⟩ := stJ X hx hZ eT Ar (j := j) (inb_of Sz hin) hg hs hd
  exact ⟨T', h', X', e', W', Arv.set Ar q Sz Ng Hs Ft rfl W' i hj hi, st⟩
theorem own_stZ (X : Stand p l e R s m args below meth c T locs cells slots) (hx : p.tables.exec = Jvm.exec) (hZ : Z.Warmed39 s.vm) (eT : T.heap = h) (V : Arv Z h a kc .boolean z vs dv) {j : Int32} {x : Int32} (hin : ¬ j < 0 ∧ j < z) (i : Nat) (hj : j.toNatClampNeg = i) (hi : i < vs.length) (hg : g.method = m) {rest : List Value} (hs : g.stack = .int x :: .int j :: .ref a :: rest) (hd : decode c.code g.pc = .ok (.bastore, 1)) :
    ∃ T' h', Stand p l e R s m args below meth c T' (locs ++ [⟨a, j.toNatClampNeg⟩]) cells slots ∧ T'.heap = h' ∧ Wr h h' a j.toNatClampNeg (.int (nar .boolean x)) ∧ Arv Z h' a kc .boolean z (vs.set i (.int (nar .boolean x))) dv ∧ ∀ target, Steps p.tables e below (T'.setTop { g with pc := g.pc + 1, stack := rest }) target → Steps p.tables e below (T.setTop g) target := by
  obtain ⟨cl, Ar, q, Sz, Ng, Hs, Ft⟩ := V
  obtain ⟨T', h', X', e', W', st⟩ := stZ X hx hZ eT Ar (j := j) (inb_of Sz hin) hg hs hd
  exact ⟨T', h', X', e', W', Arv.set Ar q Sz Ng Hs Ft (fits_nar_bool _) W' i hj hi, st⟩
theorem own_stR (X : Stand p l e R s m args below meth c T locs cells slots) (hx : p.tables.exec = Jvm.exec) (hZ : Z.Warmed39 s.vm) (eT : T.heap = h) (V : Arv Z h a kc ty z vs dv) {j : Int32} {x : Value} (hin : ¬ j < 0 ∧ j < z) (hty : ty.isReference = true) (hf : fits ty x = true) (F : ∀ cl, Arr Z h a cl ty → cl.cls = kc → Sto Z h a x) (i : Nat) (hj : j.toNatClampNeg = i) (hi : i < vs.length) (hg : g.method = m) {rest : List Value} (hs : g.stack = x :: .int j :: .ref a :: rest) (hd : decode c.code g.pc = .ok (.aastore, 1)) :
    ∃ T' h', Stand p l e R s m args below meth c T' (locs ++ [⟨a, j.toNatClampNeg⟩]) cells slots ∧ T'.heap = h' ∧ Wr h h' a j.toNatClampNeg x ∧ Arv Z h' a kc ty z (vs.set i x) dv ∧ ∀ target, Steps p.tables e below (T'.setTop { g with pc := g.pc + 1, stack := rest }) target → Steps p.tables e below (T.setTop g) target := by
  obtain ⟨cl, Ar, q, Sz, Ng, Hs, Ft⟩ := V
  obtain ⟨T', h', X', e', W', st⟩ := stR X hx hZ eT Ar (j := j) (inb_of Sz hin) hty (F cl Ar q) hg hs hd
  exact ⟨T', h', X', e', W', Arv.set Ar q Sz Ng Hs Ft hf W' i hj hi, st⟩
end Arr
section Dbl
open Jvm.Free.XS
variable {tb : Tables} [Ours tb] {target : State} {g : JFrame}
theorem own_dloadN (h : At T m c below) (hx : tb.exec = Jvm.exec) (hg : g.method = m) {k : Fin 4} {v : UInt64} (hd : decode c.code g.pc = .ok (.dload_n k, 1)) (hl : g.locals[k.val]? = some (.val (.double v))) (hr : Steps tb e below (T.setTop { g with pc := g.pc + 1, stack := .double v :: g.stack }) target) : Steps tb e below (T.setTop g) target := by
  subst hg
  jvm_step h [h.top, hx, hd, hl]
  exact hr
theorem own_dload (h : At T m c below) (hx : tb.exec = Jvm.exec) (hg : g.method = m) {k : Nat} {v : UInt64} (hd : decode c.code g.pc = .ok (.dload k, 2)) (hl : g.locals[k]? = some (.val (.double v))) (hr : Steps tb e below (T.setTop { g with pc := g.pc + 2, stack := .double v :: g.stack }) target) : Steps tb e below (T.setTop g) target := by
  subst hg
  jvm_step h [h.top, hx, hd, hl]
  exact hr
theorem own_i2d (h : At T m c below) (hx : tb.exec = Jvm.exec) (hg : g.method = m) {x : Int32} {rest : List Value} (hd : decode c.code g.pc = .ok (.i2d, 1)) (hs : g.stack = .int x :: rest) (hr : Steps tb e below (T.setTop { g with pc := g.pc + 1, stack := .double (FP.i2d x) :: rest }) target) : Steps tb e below (T.setTop g) target := by
  subst hg
  jvm_step h [h.top, hx, hd, hs]
  exact hr
theorem own_dconst0 (h : At T m c below) (hx : tb.exec = Jvm.exec) (hg : g.method = m) (hd : decode c.code g.pc = .ok (.dconst 0, 1)) (hr : Steps tb e below (T.setTop { g with pc := g.pc + 1, stack := .double FP.dconst0 :: g.stack }) target) : Steps tb e below (T.setTop g) target := by
  subst hg
  jvm_step h [h.top, hx, hd]
  exact hr
theorem own_dconst1 (h : At T m c below) (hx : tb.exec = Jvm.exec) (hg : g.method = m) (hd : decode c.code g.pc = .ok (.dconst 1, 1)) (hr : Steps tb e below (T.setTop { g with pc := g.pc + 1, stack := .double FP.dconst1 :: g.stack }) target) : Steps tb e below (T.setTop g) target := by
  subst hg
  jvm_step h [h.top, hx, hd]
  exact hr
theorem own_pop2D (h : At T m c below) (hx : tb.exec = Jvm.exec) (hg : g.method = m) {v : UInt64} {rest : List Value} (hd : decode c.code g.pc = .ok (.pop2, 1)) (hs : g.stack = .double v :: rest) (hr : Steps tb e below (T.setTop { g with pc := g.pc + 1, stack := rest }) target) : Steps tb e below (T.setTop g) target := by
  subst hg
  jvm_step h [h.top, hx, hd, hs, Value.category]
  exact hr
theorem own_lsw (h : At T m c below) (hx : tb.exec = Jvm.exec) (hg : g.method = m) {dflt : Int} {prs : Array (Int × Int)} {len : Nat} {o : Int} {pc0 pc' : Nat} (hpc : g.pc = pc0) (hd : decode c.code g.pc = .ok (.lookupswitch dflt prs, len)) {i : Int32} {rest : List Value} (hs : g.stack = .int i :: rest) (ho : lookupswitch.offset prs.toList dflt i.toInt = o) (h0 : 0 ≤ (pc0 : Int) + o) (hp : ((pc0 : Int) + o).toNat = pc') (hk : (prs.toList.zip prs.toList.tail).all (fun q => decide (q.1.1 < q.2.1)) = true)
    (hr : Steps tb e below (T.setTop { g with pc := pc', stack := rest }) target) : Steps tb e below (T.setTop g) target := by
  subst hg hpc hp
  jvm_step h [h.top, hx, hd, hs, ho, h0, lookupswitch.wp_chain]
  exact ⟨fun a b a' b' hm => by simpa using List.all_eq_true.mp hk _ hm, hr⟩
theorem own_dcmp (h : At T m c below) (hx : tb.exec = Jvm.exec) (hg : g.method = m) {x y : UInt64} {rest : List Value} {op : CmpOp} {o : Ordering} (hd : decode c.code g.pc = .ok (.dcmp op, 1)) (hs : g.stack = .double y :: .double x :: rest) (hc : FP.dcmp x y = some o) (hr : Steps tb e below (T.setTop { g with pc := g.pc + 1, stack := .int (FP.cmpInt 0 (some o)) :: rest }) target) : Steps tb e below (T.setTop g) target := by
  subst hg
  cases o <;> (jvm_step h [h.top, hx, hd, hs, hc, cmpValue]; exact hr)
end Dbl
theorem own_ne0 {s : State} {args : Array Value} {t : Term} {x : Int32} (ev : t.eval args s none [] s = some (.int x)) (h : (Cond.not (Cond.eq t (.int (0 : Int32)))).before args s = true) : ¬ (x = (0 : Int32)) := fun q => by
  subst q
  have h' := Cond.before_iff.mp h
  have e2 : (Term.int (0 : Int32)).eval args s none [] s = some (.int (0 : Int32)) := rfl
  simp only [Cond.value, ev, e2] at h'
  simp at h'
def own_sel {α : Type} (P : Prop) [Decidable P] (x y : α) : α := if P then x else y
theorem own_sel_t {α : Type} {P : Prop} [Decidable P] {x y : α} (h : P) : own_sel P x y = x := if_pos h
theorem own_sel_f {α : Type} {P : Prop} [Decidable P] {x y : α} (h : ¬ P) : own_sel P x y = y := if_neg h
def own_b2i (P : Prop) [Decidable P] : Int32 := if P then 1 else 0
theorem own_b2i_1 {P : Prop} [Decidable P] (h : P) : own_b2i P = 1 := by rw [own_b2i, if_pos h]
theorem own_b2i_congr {P R : Prop} [Decidable P] [Decidable R] (h : P ↔ R) : own_b2i P = own_b2i R := by
  by_cases q : P
  · rw [own_b2i_1 q, own_b2i_1 (h.mp q)]
  · rw [own_b2i, own_b2i, if_neg q, if_neg (fun r => q (h.mpr r))]
theorem own_b2i_t {P : Prop} [Decidable P] (h : P) : ¬ own_b2i P = 0 := by rw [own_b2i, if_pos h]; decide
theorem own_b2i_f {P : Prop} [Decidable P] (h : ¬ P) : own_b2i P = 0 := by rw [own_b2i, if_neg h]
theorem own_sta_keep {C n d : String} {v : Value} (F : Sta Z h C n d v) (K : Keep h h' ws) (q : ∀ st ∈ ws, ∀ c, h[st]? = some c → c.vm.isStatics = false) : Sta Z h' C n d v := by
  obtain ⟨cf, i, k, f, st, cell, h1, h2, h3, h4, h5, h6, h7⟩ := F
  exact ⟨cf, i, k, f, st, cell, h1, h2, h3, h4, K.2.1 st cell h5 (fun z => by rw [q st z cell h5] at h6; cases h6), h6, h7⟩
theorem own_ws0 : ∀ st ∈ ([] : List Addr), ∀ c, h[st]? = some c → c.vm.isStatics = false := fun _ q => nomatch q
theorem own_wsE {a : Addr} {C : String} (F : Exa Z h a C) (q : ∀ st ∈ ws, ∀ c, h[st]? = some c → c.vm.isStatics = false) : ∀ st ∈ a :: ws, ∀ c, h[st]? = some c → c.vm.isStatics = false := fun st hs c hc => by
  rcases List.mem_cons.mp hs with rfl | hs
  · obtain ⟨cell, k, h1, -, -, h4, -⟩ := F; cases h1.symm.trans hc; exact h4
  · exact q st hs c hc
theorem own_wsF {a : Addr} {C n d : String} {v : Value} (F : Fld Z h a C n d v) (q : ∀ st ∈ ws, ∀ c, h[st]? = some c → c.vm.isStatics = false) : ∀ st ∈ a :: ws, ∀ c, h[st]? = some c → c.vm.isStatics = false := fun st hs c hc => by
  rcases List.mem_cons.mp hs with rfl | hs
  · exact old_plain F c hc
  · exact q st hs c hc
theorem own_wsV {a : Addr} {k : ClassId} {ty : FieldType} {z : Int32} {vs : List Value} {dv : Value} (F : Arv Z h a k ty z vs dv) (q : ∀ st ∈ ws, ∀ c, h[st]? = some c → c.vm.isStatics = false) : ∀ st ∈ a :: ws, ∀ c, h[st]? = some c → c.vm.isStatics = false := fun st hs c hc => by
  rcases List.mem_cons.mp hs with rfl | hs
  · obtain ⟨cl, A, -⟩ := F; cases A.1.symm.trans hc; exact A.plain
  · exact q st hs c hc
theorem own_kx (K : Keep h h' []) : Ext h h' := ⟨K.1, fun a c q => K.2.1 a c q nin0⟩
theorem own_ins_keep {a : Addr} {C : String} {bo : Bool} (F : Ins Z h a C bo) (K : Keep h h' ws) : Ins Z h' a C bo := by
  obtain ⟨cell, cT, h1, h2, h3⟩ := F
  obtain ⟨c', q, r1, r2, r3⟩ := K.2.2 a cell h1
  exact ⟨c', cT, q, h2, by rw [r1, r2]; exact h3⟩
end Own
abbrev mn0 : MethodName := ⟨"java/lang/Math", "min", "(II)I"⟩
abbrev mn1 : MethodName := ⟨"com/example/reckonmill/reckonmill/data/Utf8BytesMistakenForUtf16Or32PinLaw", "cell", "(JII)B"⟩
theorem ow10 {Z : State} {a0 : Array Value} (hw : ∀ d ∈ tables_1, d.before a0 Z = true) : (Jvm.Cond.methodLink "com/example/reckonmill/reckonmill/data/Utf8Bytes" (47 : Nat) ({ cls := "java/lang/Math", name := "min", desc := "(II)I" } : Jvm.MethodName)).before a0 Z = true := hw _ (List.mem_of_getElem? (i := 10) rfl)
theorem ow13 {Z : State} {a0 : Array Value} (hw : ∀ d ∈ tables_1, d.before a0 Z = true) : (Jvm.Cond.code ({ cls := "java/lang/Math", name := "min", desc := "(II)I" } : Jvm.MethodName) jdk_29_method_69_code (2 : Nat) (Option.some Jvm.ClassFile.FieldType.int)).before a0 Z = true := hw _ (List.mem_of_getElem? (i := 13) rfl)
theorem ow12 {Z : State} {a0 : Array Value} (hw : ∀ d ∈ tables_1, d.before a0 Z = true) : (Jvm.Cond.initialized "java/lang/Math").before a0 Z = true := hw _ (List.mem_of_getElem? (i := 12) rfl)
theorem ow11 {Z : State} {a0 : Array Value} (hw : ∀ d ∈ tables_1, d.before a0 Z = true) : (Jvm.Cond.static ({ cls := "java/lang/Math", name := "min", desc := "(II)I" } : Jvm.MethodName)).before a0 Z = true := hw _ (List.mem_of_getElem? (i := 11) rfl)
abbrev mn2 : MethodName := ⟨"com/example/reckonmill/reckonmill/data/Utf8Bytes", "mistakenForUtf16Or32", "([BII)Z"⟩
theorem ow0 {Z : State} {a0 : Array Value} (hw : ∀ d ∈ tables_1, d.before a0 Z = true) : (Jvm.Cond.constant "com/example/reckonmill/reckonmill/data/Utf8BytesMistakenForUtf16Or32PinLaw" (7 : Nat) (2147483647 : Int32)).before a0 Z = true := hw _ (List.mem_of_getElem? (i := 0) rfl)
theorem ow1 {Z : State} {a0 : Array Value} (hw : ∀ d ∈ tables_1, d.before a0 Z = true) : (Jvm.Cond.arrayClass Jvm.ClassFile.FieldType.byte).before a0 Z = true := hw _ (List.mem_of_getElem? (i := 1) rfl)
theorem ow2 {Z : State} {a0 : Array Value} (hw : ∀ d ∈ tables_1, d.before a0 Z = true) : (Jvm.Cond.methodLink "com/example/reckonmill/reckonmill/data/Utf8BytesMistakenForUtf16Or32PinLaw" (8 : Nat) ({ cls := "com/example/reckonmill/reckonmill/data/Utf8BytesMistakenForUtf16Or32PinLaw", name := "cell", desc := "(JII)B" } : Jvm.MethodName)).before a0 Z = true := hw _ (List.mem_of_getElem? (i := 2) rfl)
theorem ow5 {Z : State} {a0 : Array Value} (hw : ∀ d ∈ tables_1, d.before a0 Z = true) : (Jvm.Cond.code ({ cls := "com/example/reckonmill/reckonmill/data/Utf8BytesMistakenForUtf16Or32PinLaw", name := "cell", desc := "(JII)B" } : Jvm.MethodName) method_2_code (4 : Nat) (Option.some Jvm.ClassFile.FieldType.byte)).before a0 Z = true := hw _ (List.mem_of_getElem? (i := 5) rfl)
theorem ow4 {Z : State} {a0 : Array Value} (hw : ∀ d ∈ tables_1, d.before a0 Z = true) : (Jvm.Cond.initialized "com/example/reckonmill/reckonmill/data/Utf8BytesMistakenForUtf16Or32PinLaw").before a0 Z = true := hw _ (List.mem_of_getElem? (i := 4) rfl)
theorem ow3 {Z : State} {a0 : Array Value} (hw : ∀ d ∈ tables_1, d.before a0 Z = true) : (Jvm.Cond.static ({ cls := "com/example/reckonmill/reckonmill/data/Utf8BytesMistakenForUtf16Or32PinLaw", name := "cell", desc := "(JII)B" } : Jvm.MethodName)).before a0 Z = true := hw _ (List.mem_of_getElem? (i := 3) rfl)
theorem ow6 {Z : State} {a0 : Array Value} (hw : ∀ d ∈ tables_1, d.before a0 Z = true) : (Jvm.Cond.methodLink "com/example/reckonmill/reckonmill/data/Utf8BytesMistakenForUtf16Or32PinLaw" (14 : Nat) ({ cls := "com/example/reckonmill/reckonmill/data/Utf8Bytes", name := "mistakenForUtf16Or32", desc := "([BII)Z" } : Jvm.MethodName)).before a0 Z = true := hw _ (List.mem_of_getElem? (i := 6) rfl)
theorem ow9 {Z : State} {a0 : Array Value} (hw : ∀ d ∈ tables_1, d.before a0 Z = true) : (Jvm.Cond.code ({ cls := "com/example/reckonmill/reckonmill/data/Utf8Bytes", name := "mistakenForUtf16Or32", desc := "([BII)Z" } : Jvm.MethodName) prog_9_method_3_code (5 : Nat) (Option.some Jvm.ClassFile.FieldType.boolean)).before a0 Z = true := hw _ (List.mem_of_getElem? (i := 9) rfl)
theorem ow8 {Z : State} {a0 : Array Value} (hw : ∀ d ∈ tables_1, d.before a0 Z = true) : (Jvm.Cond.initialized "com/example/reckonmill/reckonmill/data/Utf8Bytes").before a0 Z = true := hw _ (List.mem_of_getElem? (i := 8) rfl)
theorem ow7 {Z : State} {a0 : Array Value} (hw : ∀ d ∈ tables_1, d.before a0 Z = true) : (Jvm.Cond.static ({ cls := "com/example/reckonmill/reckonmill/data/Utf8Bytes", name := "mistakenForUtf16Or32", desc := "([BII)Z" } : Jvm.MethodName)).before a0 Z = true := hw _ (List.mem_of_getElem? (i := 7) rfl)
theorem own_addI {a b : Int32} (h1 : -2147483648 ≤ a.toInt + b.toInt) (h2 : a.toInt + b.toInt < 2147483648) : (a + b).toInt = a.toInt + b.toInt := by
  rw [Int32.toInt_add]; exact Int.bmod_eq_of_le (by omega) (by omega)
theorem own_subI {a b : Int32} (h1 : -2147483648 ≤ a.toInt - b.toInt) (h2 : a.toInt - b.toInt < 2147483648) : (a - b).toInt = a.toInt - b.toInt := by
  rw [Int32.toInt_sub]; exact Int.bmod_eq_of_le (by omega) (by omega)
theorem own_mulI {a b : Int32} (h1 : -2147483648 ≤ a.toInt * b.toInt) (h2 : a.toInt * b.toInt < 2147483648) : (a * b).toInt = a.toInt * b.toInt := by
  rw [Int32.toInt_mul]; exact Int.bmod_eq_of_le (by omega) (by omega)
theorem own_nat32 (x : Int32) (h : 0 ≤ x.toInt) : x.toInt = (x.toBitVec.toNat : Int) := by
  have e : x.toInt = x.toBitVec.toInt := rfl
  rw [BitVec.toInt_eq_toNat_cond] at e
  have := x.toBitVec.isLt
  split at e <;> omega
theorem own_maskI (x m : Int32) (h : 0 ≤ m.toInt) : 0 ≤ (x &&& m).toInt ∧ (x &&& m).toInt ≤ m.toInt := by
  have hm := own_nat32 m h
  have h1 : (x &&& m).toBitVec.toNat ≤ m.toBitVec.toNat := by rw [Int32.toBitVec_and, BitVec.toNat_and]; exact Nat.and_le_right
  have e : (x &&& m).toInt = (x &&& m).toBitVec.toInt := rfl
  have hl := Int32.toInt_lt m
  rw [e, BitVec.toInt_eq_toNat_cond]
  split <;> omega
theorem own_ltI {a b : Int32} : a < b ↔ a.toInt < b.toInt := Int32.lt_iff_toInt_lt
def own_min (a b : Int32) : Int32 := if b < a then b else a
theorem own_off (o : Int32) : 0 ≤ (o &&& (3 : Int32)).toInt ∧ (o &&& (3 : Int32)).toInt ≤ 3 := own_maskI o 3 (by decide)
theorem own_ml (x : Int32) : 0 ≤ (x &&& (2147483647 : Int32)).toInt := (own_maskI x 2147483647 (by decide)).1
theorem own_lk {y1 y2 k : Int32} {n : Int} (hk : k.toInt = n) (h0 : 0 ≤ y1.toInt) (h3 : y1.toInt ≤ 3) (hl : 0 ≤ y2.toInt) (hn : 0 ≤ n) (hn4 : n ≤ 4) : (y1 + k < y1 + own_min y2 4) ↔ (n < 4 ∧ k < y2) := by
  have e4 : (4 : Int32).toInt = 4 := rfl
  simp only [own_min]
  have hkk : (y1 + k).toInt = y1.toInt + k.toInt := own_addI (by omega) (by omega)
  have hy := Int32.toInt_lt y2
  split
  · rename_i h
    rw [own_ltI] at h
    have : (y1 + 4).toInt = y1.toInt + (4 : Int32).toInt := own_addI (by omega) (by omega)
    rw [own_ltI, own_ltI]
    omega
  · rename_i h
    rw [own_ltI] at h
    have : (y1 + y2).toInt = y1.toInt + y2.toInt := own_addI (by omega) (by omega)
    rw [own_ltI, own_ltI]
    omega
def own_el (vs : List Value) (j : Int32) : Int32 := match vs.getD j.toNatClampNeg (.int (0 : Int32)) with | .int z => z | _ => 0
def own_Ints (vs : List Value) : Prop := ∀ n, ∃ z, vs.getD n (.int (0 : Int32)) = .int z
theorem own_ints_nil : own_Ints [] := fun _ => ⟨0, rfl⟩
theorem own_ints_cons {z : Int32} {vs : List Value} (h : own_Ints vs) : own_Ints (.int z :: vs) := fun n => match n with
  | 0 => ⟨z, rfl⟩
  | n + 1 => h n
theorem own_el_at {vs : List Value} (h : own_Ints vs) (j : Int32) : vs.getD j.toNatClampNeg (.int (0 : Int32)) = .int (own_el vs j) := by
  obtain ⟨z, hz⟩ := h j.toNatClampNeg
  simp only [own_el, hz]
abbrev own_mist (vs : List Value) (y1 y2 : Int32) : Prop := ((0 : Int32) < y2 ∧ own_el vs y1 = (0 : Int32)) ∨ ((1 : Int32) < y2 ∧ own_el vs (y1 + (1 : Int32)) = (0 : Int32)) ∨ ((2 : Int32) < y2 ∧ own_el vs (y1 + (2 : Int32)) = (0 : Int32)) ∨ ((3 : Int32) < y2 ∧ own_el vs (y1 + (3 : Int32)) = (0 : Int32))
theorem own_idx {y1 k : Int32} {n : Int} (hk : k.toInt = n) (h0 : 0 ≤ y1.toInt) (h3 : y1.toInt ≤ 3) (hn : 0 ≤ n) (hn4 : n ≤ 3) : ¬ (y1 + k) < 0 ∧ (y1 + k) < (8 : Int32) := by
  have e8 : (8 : Int32).toInt = 8 := rfl
  have e0 : (0 : Int32).toInt = 0 := rfl
  have hkk : (y1 + k).toInt = y1.toInt + k.toInt := own_addI (by omega) (by omega)
  rw [own_ltI, own_ltI]; omega
theorem own_idx0 {y1 : Int32} (h0 : 0 ≤ y1.toInt) (h3 : y1.toInt ≤ 3) : ¬ y1 < 0 ∧ y1 < (8 : Int32) := by
  have e8 : (8 : Int32).toInt = 8 := rfl
  have e0 : (0 : Int32).toInt = 0 := rfl
  rw [own_ltI, own_ltI]; omega
theorem own_lk0 {y1 y2 : Int32} (h0 : 0 ≤ y1.toInt) (h3 : y1.toInt ≤ 3) (hl : 0 ≤ y2.toInt) : (y1 < y1 + own_min y2 4) ↔ (0 : Int32) < y2 := by
  have h := own_lk (y1 := y1) (y2 := y2) (k := 0) (n := 0) rfl h0 h3 hl (by omega) (by omega)
  rw [Int32.add_zero] at h
  exact h.trans ⟨fun q => q.2, fun q => ⟨by omega, q⟩⟩
theorem own_nlt {a b c : Int32} (h : ¬ a < c) (hab : a < b) : ¬ b < c := by rw [own_ltI] at *; omega
theorem own_nz9 {z : Int32} (h0 : 0 ≤ z.toInt) (h3 : z.toInt ≤ 3) : (9 : Int32) - z ≠ 0 := fun q => by
  have e9 : (9 : Int32).toInt = 9 := rfl
  have e0 : (0 : Int32).toInt = 0 := rfl
  have := own_subI (a := 9) (b := z) (by omega) (by omega)
  rw [q] at this; omega
theorem own_len {x z : Int32} (h0 : 0 ≤ z.toInt) (h3 : z.toInt ≤ 3) : 0 ≤ ((x &&& (2147483647 : Int32)) % ((9 : Int32) - z)).toInt := by
  have e9 : (9 : Int32).toInt = 9 := rfl
  have := own_subI (a := 9) (b := z) (by omega) (by omega)
  exact ((c_iremV (x &&& 2147483647) (9 - z)).1 (own_ml x) (by omega)).1
theorem d3_0 : decode jdk_29_method_69_code 0 = .ok (.iload_n 0, 1) := by decide +kernel
theorem d3_1 : decode jdk_29_method_69_code 1 = .ok (.iload_n 1, 1) := by decide +kernel
theorem d3_2 : decode jdk_29_method_69_code 2 = .ok (.if_icmp .gt 7, 3) := by decide +kernel
theorem d3_5 : decode jdk_29_method_69_code 5 = .ok (.iload_n 0, 1) := by decide +kernel
theorem d3_6 : decode jdk_29_method_69_code 6 = .ok (.goto 4, 3) := by decide +kernel
theorem d3_9 : decode jdk_29_method_69_code 9 = .ok (.iload_n 1, 1) := by decide +kernel
theorem d3_10 : decode jdk_29_method_69_code 10 = .ok (.ireturn, 1) := by decide +kernel
theorem ef_rm3 (m : MethodId) (y0 : Int32) (y1 : Int32) : entryFrame m #[(.int y0), (.int y1)] 2 = mkF m 0 #[.val (.int y0), .val (.int y1)] [] := by first | (simp [entryFrame, mkF, argsToLocals, Value.category]; done) | rfl
def Q3 (Z : State) (y0 : Int32) (y1 : Int32) (h0 : Heap) (n0 : Nat) (v : Option Value) (h : Heap) (L : List Loc) : Prop := v = some (.int (own_min y0 y1)) ∧ Fr n0 L ∧ h = h0
set_option maxRecDepth 65536 in
set_option maxHeartbeats 40000000 in
theorem rm3 (l : Launch) (Z : State) (a0 : Array Value) (hw : ∀ d ∈ tables_1, d.before a0 Z = true) (ws : List Jvm.Cond) (y0 : Int32) (y1 : Int32) (h0 : Heap) (n0 : Nat) (Z0 : n0 ≤ h0.size) :
    MetFree l mn0 (head1 (Jvm.Cond.code mn0 jdk_29_method_69_code 2 (some .int) :: ws) ({ frames := 0, cells := 0, slots := 0, locals := 0 } : Room)) (fun a U => a = #[(.int y0), (.int y1)] ∧ Z.Warmed39 U.vm ∧ U.heap = h0) (fun _ _ _ _ _ => True) (fun _ U o U' => ∃ v L, o = .returned v ∧ Q3 Z y0 y1 h0 n0 v U'.heap L ∧ FrameEnd U o U' L ({ frames := 0, cells := 0, slots := 0, locals := 0 } : Room).cells ({ frames := 0, cells := 0, slots := 0, locals := 0 } : Room).slots) := by
  refine MetFree.of_bodySF (Jvm.Free.JP.mathPlain rfl (by decide +kernel)) hisR ?_
  intro p e s m args below meth c s₁ Bd hml0 hP hK
  obtain ⟨rfl, hZ, hh⟩ := hP
  have hx := Bd.exec
  have hby := Bd.bytes
  have hml : c.maxLocals = 2 := hml0
  have hown : s.vm.findClass "java/lang/Math" = some m.cls := findClass_of_methodNamed Bd.named
  have hnm := (name_of_methodNamed Bd.named Bd.method).1
  have X0 : Stand p l e ({ frames := 0, cells := 0, slots := 0, locals := 0 } : Room) s m #[(.int y0), (.int y1)] below meth c s₁ [] 0 0 := Stand.of_body Bd
  have e0 : s₁.heap = h0 := by rw [← hh, Bd.state]; rfl
  have N0 := Fr.nil n0
  show own_Ends p e below s (Q3 Z y0 y1 h0 n0) _ _ s₁ _
  rw [ef_rm3 m y0 y1]
  refine own_go (T' := s₁) (f' := (mkF m 2 #[.val (.int y0), .val (.int y1)] [(.int y1), (.int y0)])) (fun _ k => XS.iloadN X0.here hx rfl (hb hby d3_0) rfl (XS.iloadN X0.here hx rfl (hb hby d3_1) rfl k)) ?_
  by_cases hc1 : y1 < y0
  · refine own_go (T' := s₁) (f' := (mkF m 10 #[.val (.int y0), .val (.int y1)] [(.int y1)])) (fun _ k => XS.icmpYes X0.here hx rfl (pc0 := 2) (pc' := 9) rfl (hb hby d3_2) rfl (tlt hc1).2.2.1 (by decide) (by decide) (XS.iloadN X0.here hx rfl (hb hby d3_9) rfl k)) ?_
    refine own_ret X0 (v := some (.int y1)) (fun h => by rw [Bd.returns] at h; cases h) Bd.notSynchronized (fun fs hr => retI X0 hx Bd.returns (hb hby d3_10) hr) ?_ (by decide) (by decide)
    show Q3 Z y0 y1 h0 n0 _ s₁.heap _
    refine ⟨?_, N0, e0⟩
    simp [own_min, *]
  · refine own_go (T' := s₁) (f' := (mkF m 10 #[.val (.int y0), .val (.int y1)] [(.int y0)])) (fun _ k => XS.icmpNo X0.here hx rfl (hb hby d3_2) rfl (flt hc1).2.2.1 (XS.iloadN X0.here hx rfl (hb hby d3_5) rfl (XS.goto X0.here hx rfl (pc0 := 6) (pc' := 10) rfl (hb hby d3_6) (by decide) (by decide) k))) ?_
    refine own_ret X0 (v := some (.int y0)) (fun h => by rw [Bd.returns] at h; cases h) Bd.notSynchronized (fun fs hr => retI X0 hx Bd.returns (hb hby d3_10) hr) ?_ (by decide) (by decide)
    show Q3 Z y0 y1 h0 n0 _ s₁.heap _
    refine ⟨?_, N0, e0⟩
    simp [own_min, *]
theorem d1_0 : decode method_2_code 0 = .ok (.iload_n 2, 1) := by decide +kernel
theorem d1_1 : decode method_2_code 1 = .ok (.iload_n 3, 1) := by decide +kernel
theorem d1_2 : decode method_2_code 2 = .ok (.iushr, 1) := by decide +kernel
theorem d1_3 : decode method_2_code 3 = .ok (.iconst 1, 1) := by decide +kernel
theorem d1_4 : decode method_2_code 4 = .ok (.iand, 1) := by decide +kernel
theorem d1_5 : decode method_2_code 5 = .ok (.ifCond .eq 5, 3) := by decide +kernel
theorem d1_8 : decode method_2_code 8 = .ok (.iconst 0, 1) := by decide +kernel
theorem d1_9 : decode method_2_code 9 = .ok (.ireturn, 1) := by decide +kernel
theorem d1_10 : decode method_2_code 10 = .ok (.lload_n 0, 1) := by decide +kernel
theorem d1_11 : decode method_2_code 11 = .ok (.bipush 8, 2) := by decide +kernel
theorem d1_13 : decode method_2_code 13 = .ok (.iload_n 3, 1) := by decide +kernel
theorem d1_14 : decode method_2_code 14 = .ok (.imul, 1) := by decide +kernel
theorem d1_15 : decode method_2_code 15 = .ok (.lushr, 1) := by decide +kernel
theorem d1_16 : decode method_2_code 16 = .ok (.l2i, 1) := by decide +kernel
theorem d1_17 : decode method_2_code 17 = .ok (.i2b, 1) := by decide +kernel
theorem d1_18 : decode method_2_code 18 = .ok (.ireturn, 1) := by decide +kernel
theorem pn_1 : plainName "com/example/reckonmill/reckonmill/data/Utf8BytesMistakenForUtf16Or32PinLaw" = true := by first | (simp [plainName, overriddenIn]; done) | decide +kernel
theorem ef_rm1 (m : MethodId) (q0 : Int64) (p1 : Int32) (p2 : Int32) : entryFrame m #[(.long q0), (.int p1), (.int p2)] 4 = mkF m 0 #[.val (.long q0), .second, .val (.int p1), .val (.int p2)] [] := by first | (simp [entryFrame, mkF, argsToLocals, Value.category]; done) | rfl
def Q1 (Z : State) (q0 : Int64) (p1 : Int32) (p2 : Int32) (h0 : Heap) (n0 : Nat) (v : Option Value) (h : Heap) (L : List Loc) : Prop := ∃ c : Int32, v = some (.int c) ∧ Fr n0 L ∧ h = h0
set_option maxRecDepth 65536 in
set_option maxHeartbeats 40000000 in
theorem rm1 (l : Launch) (Z : State) (a0 : Array Value) (hw : ∀ d ∈ tables_1, d.before a0 Z = true) (ws : List Jvm.Cond) (q0 : Int64) (p1 : Int32) (p2 : Int32) (h0 : Heap) (n0 : Nat) (Z0 : n0 ≤ h0.size) :
    MetFree l mn1 (head1 (Jvm.Cond.code mn1 method_2_code 4 (some .byte) :: ws) ({ frames := 0, cells := 0, slots := 0, locals := 0 } : Room)) (fun a U => a = #[(.long q0), (.int p1), (.int p2)] ∧ Z.Warmed39 U.vm ∧ U.heap = h0) (fun _ _ _ _ _ => True) (fun _ U o U' => ∃ v L, o = .returned v ∧ Q1 Z q0 p1 p2 h0 n0 v U'.heap L ∧ FrameEnd U o U' L ({ frames := 0, cells := 0, slots := 0, locals := 0 } : Room).cells ({ frames := 0, cells := 0, slots := 0, locals := 0 } : Room).slots) := by
  refine MetFree.of_bodySF (plainFor_of_name pn_1) hisR ?_
  intro p e s m args below meth c s₁ Bd hml0 hP hK
  obtain ⟨rfl, hZ, hh⟩ := hP
  have hx := Bd.exec
  have hby := Bd.bytes
  have hml : c.maxLocals = 4 := hml0
  have hown : s.vm.findClass "com/example/reckonmill/reckonmill/data/Utf8BytesMistakenForUtf16Or32PinLaw" = some m.cls := findClass_of_methodNamed Bd.named
  have hnm := (name_of_methodNamed Bd.named Bd.method).1
  have X0 : Stand p l e ({ frames := 0, cells := 0, slots := 0, locals := 0 } : Room) s m #[(.long q0), (.int p1), (.int p2)] below meth c s₁ [] 0 0 := Stand.of_body Bd
  have e0 : s₁.heap = h0 := by rw [← hh, Bd.state]; rfl
  have N0 := Fr.nil n0
  show own_Ends p e below s (Q1 Z q0 p1 p2 h0 n0) _ _ s₁ _
  rw [ef_rm1 m q0 p1 p2]
  refine own_go (T' := s₁) (f' := (mkF m 5 #[.val (.long q0), .second, .val (.int p1), .val (.int p2)] [(.int (((p1.toUInt32 >>> (p2 &&& 31).toUInt32).toInt32) &&& (1 : Int32)))])) (fun _ k => XS.iloadN X0.here hx rfl (hb hby d1_0) rfl (XS.iloadN X0.here hx rfl (hb hby d1_1) rfl (XS.iushr X0.here hx rfl (hb hby d1_2) rfl (XS.iconst X0.here hx rfl (hb hby d1_3) (XS.iand X0.here hx rfl (hb hby d1_4) rfl k))))) ?_
  by_cases hc1 : (((p1.toUInt32 >>> (p2 &&& 31).toUInt32).toInt32) &&& (1 : Int32)) = (0 : Int32)
  · refine own_go (T' := s₁) (f' := (mkF m 16 #[.val (.long q0), .second, .val (.int p1), .val (.int p2)] [(.long ((q0.toUInt64 >>> (((8 : Int32) * p2) &&& 0x3f).toInt64.toUInt64).toInt64))])) (fun _ k => XS.ifYes X0.here hx rfl (pc0 := 5) (pc' := 10) rfl (hb hby d1_5) rfl ((if0 _ _).trans (teq hc1).1) (by decide) (by decide) (XS.lloadN X0.here hx rfl (hb hby d1_10) rfl (XS.bipush X0.here hx rfl (hb hby d1_11) (XS.iloadN X0.here hx rfl (hb hby d1_13) rfl (XS.imul X0.here hx rfl (hb hby d1_14) rfl (XS.lushr X0.here hx rfl (hb hby d1_15) rfl k)))))) ?_
    refine own_go (T' := s₁) (f' := (mkF m 18 #[.val (.long q0), .second, .val (.int p1), .val (.int p2)] [(.int ((((q0.toUInt64 >>> (((8 : Int32) * p2) &&& 0x3f).toInt64.toUInt64).toInt64).toInt32).toInt8.toInt32))])) (fun _ k => XS.l2i X0.here hx rfl (hb hby d1_16) rfl (XS.i2b X0.here hx rfl (hb hby d1_17) rfl k)) ?_
    refine own_ret X0 (v := some (.int (nar .byte ((((q0.toUInt64 >>> (((8 : Int32) * p2) &&& 0x3f).toInt64.toUInt64).toInt64).toInt32).toInt8.toInt32)))) (fun h => by rw [Bd.returns] at h; cases h) Bd.notSynchronized (fun fs hr => retN X0 hx (t := .byte) Bd.returns (by simp) (hb hby d1_18) hr) ?_ (by decide) (by decide)
    show Q1 Z q0 p1 p2 h0 n0 _ s₁.heap _
    exact ⟨_, rfl, N0, e0⟩
  · refine own_go (T' := s₁) (f' := (mkF m 9 #[.val (.long q0), .second, .val (.int p1), .val (.int p2)] [(.int (0 : Int32))])) (fun _ k => XS.ifNo X0.here hx rfl (hb hby d1_5) rfl ((if0 _ _).trans (feq hc1).1) (XS.iconst X0.here hx rfl (hb hby d1_8) k)) ?_
    refine own_ret X0 (v := some (.int (nar .byte (0 : Int32)))) (fun h => by rw [Bd.returns] at h; cases h) Bd.notSynchronized (fun fs hr => retN X0 hx (t := .byte) Bd.returns (by simp) (hb hby d1_9) hr) ?_ (by decide) (by decide)
    show Q1 Z q0 p1 p2 h0 n0 _ s₁.heap _
    exact ⟨_, rfl, N0, e0⟩
theorem pd0 : parseMethodDescriptor "(II)I" = some ⟨[.int, .int], some .int⟩ := by decide +kernel
theorem d2_0 : decode prog_9_method_3_code 0 = .ok (.iload_n 1, 1) := by decide +kernel
theorem d2_1 : decode prog_9_method_3_code 1 = .ok (.iload_n 2, 1) := by decide +kernel
theorem d2_2 : decode prog_9_method_3_code 2 = .ok (.iconst 4, 1) := by decide +kernel
theorem d2_3 : decode prog_9_method_3_code 3 = .ok (.invokestatic 47, 3) := by decide +kernel
theorem d2_6 : decode prog_9_method_3_code 6 = .ok (.iadd, 1) := by decide +kernel
theorem d2_7 : decode prog_9_method_3_code 7 = .ok (.istore_n 3, 1) := by decide +kernel
theorem d2_8 : decode prog_9_method_3_code 8 = .ok (.iload_n 1, 1) := by decide +kernel
theorem d2_9 : decode prog_9_method_3_code 9 = .ok (.istore 4, 2) := by decide +kernel
theorem d2_11 : decode prog_9_method_3_code 11 = .ok (.iload 4, 2) := by decide +kernel
theorem d2_13 : decode prog_9_method_3_code 13 = .ok (.iload_n 3, 1) := by decide +kernel
theorem d2_14 : decode prog_9_method_3_code 14 = .ok (.if_icmp .ge 18, 3) := by decide +kernel
theorem d2_17 : decode prog_9_method_3_code 17 = .ok (.aload_n 0, 1) := by decide +kernel
theorem d2_18 : decode prog_9_method_3_code 18 = .ok (.iload 4, 2) := by decide +kernel
theorem d2_20 : decode prog_9_method_3_code 20 = .ok (.baload, 1) := by decide +kernel
theorem d2_21 : decode prog_9_method_3_code 21 = .ok (.ifCond .ne 5, 3) := by decide +kernel
theorem d2_24 : decode prog_9_method_3_code 24 = .ok (.iconst 1, 1) := by decide +kernel
theorem d2_25 : decode prog_9_method_3_code 25 = .ok (.ireturn, 1) := by decide +kernel
theorem d2_26 : decode prog_9_method_3_code 26 = .ok (.iinc 4 1, 3) := by decide +kernel
theorem d2_29 : decode prog_9_method_3_code 29 = .ok (.goto (-18), 3) := by decide +kernel
theorem d2_32 : decode prog_9_method_3_code 32 = .ok (.iconst 0, 1) := by decide +kernel
theorem d2_33 : decode prog_9_method_3_code 33 = .ok (.ireturn, 1) := by decide +kernel
theorem pn_0 : plainName "com/example/reckonmill/reckonmill/data/Utf8Bytes" = true := by first | (simp [plainName, overriddenIn]; done) | decide +kernel
theorem ef_rm2 (m : MethodId) (y0 : Addr) (y1 : Int32) (y2 : Int32) : entryFrame m #[(.ref y0), (.int y1), (.int y2)] 5 = mkF m 0 #[.val (.ref y0), .val (.int y1), .val (.int y2), .unset, .unset] [] := by first | (simp [entryFrame, mkF, argsToLocals, Value.category]; done) | rfl
def Q2 (Z : State) (y0 : Addr) (y1 : Int32) (y2 : Int32) (kc : ClassId) (vs : List Value) (h0 : Heap) (n0 : Nat) (v : Option Value) (h : Heap) (L : List Loc) : Prop := v = some (.int (own_b2i (own_mist vs y1 y2))) ∧ Fr n0 L ∧ h = h0
set_option maxRecDepth 65536 in
set_option maxHeartbeats 40000000 in
theorem rm2 (l : Launch) (Z : State) (a0 : Array Value) (hw : ∀ d ∈ tables_1, d.before a0 Z = true) (ws : List Jvm.Cond) (y0 : Addr) (y1 : Int32) (y2 : Int32) (kc : ClassId) (vs : List Value) (h0 : Heap) (n0 : Nat) (Z0 : n0 ≤ h0.size) (V_y0 : Arv Z h0 y0 kc .byte (8 : Int32) vs (.int (0 : Int32))) (hI : own_Ints vs) (b0 : 0 ≤ y1.toInt) (b3 : y1.toInt ≤ 3) (bl : 0 ≤ y2.toInt) :
    MetFree l mn2 (head1 (Jvm.Cond.code mn2 prog_9_method_3_code 5 (some .boolean) :: ws) ({ frames := 1, cells := 0, slots := 0, locals := 14 } : Room)) (fun a U => a = #[(.ref y0), (.int y1), (.int y2)] ∧ Z.Warmed39 U.vm ∧ U.heap = h0) (fun _ _ _ _ _ => True) (fun _ U o U' => ∃ v L, o = .returned v ∧ Q2 Z y0 y1 y2 kc vs h0 n0 v U'.heap L ∧ FrameEnd U o U' L ({ frames := 1, cells := 0, slots := 0, locals := 14 } : Room).cells ({ frames := 1, cells := 0, slots := 0, locals := 14 } : Room).slots) := by
  refine MetFree.of_bodySF (plainFor_of_name pn_0) hisR ?_
  intro p e s m args below meth c s₁ Bd hml0 hP hK
  obtain ⟨rfl, hZ, hh⟩ := hP
  have hx := Bd.exec
  have hby := Bd.bytes
  have hml : c.maxLocals = 5 := hml0
  have hown : s.vm.findClass "com/example/reckonmill/reckonmill/data/Utf8Bytes" = some m.cls := findClass_of_methodNamed Bd.named
  have hnm := (name_of_methodNamed Bd.named Bd.method).1
  have X0 : Stand p l e ({ frames := 1, cells := 0, slots := 0, locals := 14 } : Room) s m #[(.ref y0), (.int y1), (.int y2)] below meth c s₁ [] 0 0 := Stand.of_body Bd
  have e0 : s₁.heap = h0 := by rw [← hh, Bd.state]; rfl
  have N0 := Fr.nil n0
  show own_Ends p e below s (Q2 Z y0 y1 y2 kc vs h0 n0) _ _ s₁ _
  rw [ef_rm2 m y0 y1 y2]
  refine own_go (T' := s₁) (f' := (mkF m 3 #[.val (.ref y0), .val (.int y1), .val (.int y2), .unset, .unset] [(.int (4 : Int32)), (.int y2), (.int y1)])) (fun _ k => XS.iloadN X0.here hx rfl (hb hby d2_0) rfl (XS.iloadN X0.here hx rfl (hb hby d2_1) rfl (XS.iconst X0.here hx rfl (hb hby d2_2) k))) ?_
  obtain ⟨_, _, ⟨T1, L1, k1, n1⟩, -, X1, ⟨Lc1, hQ1, l1, y1, z1⟩, st1⟩ := Jvm.LawKit.callS X0 hx (y := mn0) hown (mvT hZ (ow10 hw)) (mvT hZ (ow11 hw)) (mvT hZ (ow12 hw)) (mvT hZ (ow13 hw)) (by decide) (backOf (W := 1) (rm3 l Z a0 hw [] y2 (4 : Int32) h0 n0 Z0) hZ (ow13 hw) (ow12 hw) (by decide) (by decide)) (g := (mkF m 3 #[.val (.ref y0), .val (.int y1), .val (.int y2), .unset, .unset] [(.int (4 : Int32)), (.int y2), (.int y1)])) rfl (by rw [hml]; rfl) (argsL := [(.int y2), (.int (4 : Int32))]) (rest := [(.int y1)]) (lenOf pd0 rfl) rfl (by show 2 * 0 + _ ≤ _; exact Nat.le_of_eq rfl) (hb hby d2_3) (fun _ _ => ⟨rfl, e0, (by decide : 0 + 0 ≤ _), (by decide : 0 + 0 ≤ _)⟩)
  dsimp only [Pt.U, Pt.locs, Pt.cells, Pt.slots] at X1 l1 y1 z1 st1 hQ1
  subst l1 y1 z1
  obtain ⟨rfl, N1q, hh1⟩ := hQ1
  have N1 := Fr.app N0 N1q
  refine own_go (T' := T1) (f' := (mkF m 13 #[.val (.ref y0), .val (.int y1), .val (.int y2), .val (.int (y1 + (own_min y2 (4 : Int32)))), .val (.int y1)] [(.int y1)])) (fun _ k => st1 _ (XS.iadd X1.here hx rfl (hb hby d2_6) rfl (XS.istoreN X1.here hx rfl (hb hby d2_7) rfl (l' := #[.val (.ref y0), .val (.int y1), .val (.int y2), .val (.int (y1 + (own_min y2 (4 : Int32)))), .unset]) rfl (XS.iloadN X1.here hx rfl (hb hby d2_8) rfl (XS.istore X1.here hx rfl (hb hby d2_9) rfl (l' := #[.val (.ref y0), .val (.int y1), .val (.int y2), .val (.int (y1 + (own_min y2 (4 : Int32)))), .val (.int y1)]) rfl (XS.iload X1.here hx rfl (hb hby d2_11) rfl k)))))) ?_
  refine own_go (T' := T1) (f' := (mkF m 14 #[.val (.ref y0), .val (.int y1), .val (.int y2), .val (.int (y1 + (own_min y2 (4 : Int32)))), .val (.int y1)] [(.int (y1 + (own_min y2 (4 : Int32)))), (.int y1)])) (fun _ k => XS.iloadN X1.here hx rfl (hb hby d2_13) rfl k) ?_
  by_cases hc2 : (0 : Int32) < y2
  · refine own_go (T' := T1) (f' := (mkF m 21 #[.val (.ref y0), .val (.int y1), .val (.int y2), .val (.int (y1 + (own_min y2 (4 : Int32)))), .val (.int y1)] [(.int (own_el vs y1))])) (fun _ k => XS.icmpNo X1.here hx rfl (hb hby d2_14) rfl (tlt ((own_lk0 b0 b3 bl).mpr hc2)).2.1 (XS.aloadN X1.here hx rfl (hb hby d2_17) rfl rfl (XS.iload X1.here hx rfl (hb hby d2_18) rfl (own_ldB X1 hx hZ hh1 V_y0 (j := y1) (x := (own_el vs y1)) (own_idx0 b0 b3) (own_el_at hI _) rfl rfl (hb hby d2_20) k)))) ?_
    by_cases hc3 : (own_el vs y1) = (0 : Int32)
    · refine own_go (T' := T1) (f' := (mkF m 25 #[.val (.ref y0), .val (.int y1), .val (.int y2), .val (.int (y1 + (own_min y2 (4 : Int32)))), .val (.int y1)] [(.int (1 : Int32))])) (fun _ k => XS.ifNo X1.here hx rfl (hb hby d2_21) rfl ((if0 _ _).trans (teq hc3).2) (XS.iconst X1.here hx rfl (hb hby d2_24) k)) ?_
      refine own_ret X1 (v := some (.int (1 : Int32))) (fun h => by rw [Bd.returns] at h; cases h) Bd.notSynchronized (fun fs hr => retN X1 hx (t := .boolean) Bd.returns (by simp) (hb hby d2_25) hr) ?_ (by decide) (by decide)
      show Q2 Z y0 y1 y2 kc vs h0 n0 _ T1.heap _
      refine ⟨?_, N1, hh1⟩
      simp [own_b2i, *]
    · refine own_go (T' := T1) (f' := (mkF m 14 #[.val (.ref y0), .val (.int y1), .val (.int y2), .val (.int (y1 + (own_min y2 (4 : Int32)))), .val (.int (y1 + (1 : Int32)))] [(.int (y1 + (own_min y2 (4 : Int32)))), (.int (y1 + (1 : Int32)))])) (fun _ k => XS.ifYes X1.here hx rfl (pc0 := 21) (pc' := 26) rfl (hb hby d2_21) rfl ((if0 _ _).trans (feq hc3).2) (by decide) (by decide) (XS.iinc X1.here hx rfl (hb hby d2_26) rfl (l' := #[.val (.ref y0), .val (.int y1), .val (.int y2), .val (.int (y1 + (own_min y2 (4 : Int32)))), .val (.int (y1 + (1 : Int32)))]) rfl (XS.goto X1.here hx rfl (pc0 := 29) (pc' := 11) rfl (hb hby d2_29) (by decide) (by decide) (XS.iload X1.here hx rfl (hb hby d2_11) rfl (XS.iloadN X1.here hx rfl (hb hby d2_13) rfl k))))) ?_
      by_cases hc4 : (1 : Int32) < y2
      · refine own_go (T' := T1) (f' := (mkF m 21 #[.val (.ref y0), .val (.int y1), .val (.int y2), .val (.int (y1 + (own_min y2 (4 : Int32)))), .val (.int (y1 + (1 : Int32)))] [(.int (own_el vs (y1 + (1 : Int32))))])) (fun _ k => XS.icmpNo X1.here hx rfl (hb hby d2_14) rfl (tlt ((own_lk (k := (1 : Int32)) (n := 1) rfl b0 b3 bl (by decide) (by decide)).mpr ⟨by decide, hc4⟩)).2.1 (XS.aloadN X1.here hx rfl (hb hby d2_17) rfl rfl (XS.iload X1.here hx rfl (hb hby d2_18) rfl (own_ldB X1 hx hZ hh1 V_y0 (j := (y1 + (1 : Int32))) (x := (own_el vs (y1 + (1 : Int32)))) (own_idx (n := 1) rfl b0 b3 (by decide) (by decide)) (own_el_at hI _) rfl rfl (hb hby d2_20) k)))) ?_
        by_cases hc5 : (own_el vs (y1 + (1 : Int32))) = (0 : Int32)
        · refine own_go (T' := T1) (f' := (mkF m 25 #[.val (.ref y0), .val (.int y1), .val (.int y2), .val (.int (y1 + (own_min y2 (4 : Int32)))), .val (.int (y1 + (1 : Int32)))] [(.int (1 : Int32))])) (fun _ k => XS.ifNo X1.here hx rfl (hb hby d2_21) rfl ((if0 _ _).trans (teq hc5).2) (XS.iconst X1.here hx rfl (hb hby d2_24) k)) ?_
          refine own_ret X1 (v := some (.int (1 : Int32))) (fun h => by rw [Bd.returns] at h; cases h) Bd.notSynchronized (fun fs hr => retN X1 hx (t := .boolean) Bd.returns (by simp) (hb hby d2_25) hr) ?_ (by decide) (by decide)
          show Q2 Z y0 y1 y2 kc vs h0 n0 _ T1.heap _
          refine ⟨?_, N1, hh1⟩
          simp [own_b2i, *]
        · refine own_go (T' := T1) (f' := (mkF m 29 #[.val (.ref y0), .val (.int y1), .val (.int y2), .val (.int (y1 + (own_min y2 (4 : Int32)))), .val (.int ((y1 + (1 : Int32)) + (1 : Int32)))] [])) (fun _ k => XS.ifYes X1.here hx rfl (pc0 := 21) (pc' := 26) rfl (hb hby d2_21) rfl ((if0 _ _).trans (feq hc5).2) (by decide) (by decide) (XS.iinc X1.here hx rfl (hb hby d2_26) rfl (l' := #[.val (.ref y0), .val (.int y1), .val (.int y2), .val (.int (y1 + (own_min y2 (4 : Int32)))), .val (.int ((y1 + (1 : Int32)) + (1 : Int32)))]) rfl k)) ?_
          rw [(by rw [Int32.add_assoc]; rfl : ((y1 + (1 : Int32)) + (1 : Int32)) = (y1 + (2 : Int32)))]
          refine own_go (T' := T1) (f' := (mkF m 14 #[.val (.ref y0), .val (.int y1), .val (.int y2), .val (.int (y1 + (own_min y2 (4 : Int32)))), .val (.int (y1 + (2 : Int32)))] [(.int (y1 + (own_min y2 (4 : Int32)))), (.int (y1 + (2 : Int32)))])) (fun _ k => XS.goto X1.here hx rfl (pc0 := 29) (pc' := 11) rfl (hb hby d2_29) (by decide) (by decide) (XS.iload X1.here hx rfl (hb hby d2_11) rfl (XS.iloadN X1.here hx rfl (hb hby d2_13) rfl k))) ?_
          by_cases hc6 : (2 : Int32) < y2
          · refine own_go (T' := T1) (f' := (mkF m 21 #[.val (.ref y0), .val (.int y1), .val (.int y2), .val (.int (y1 + (own_min y2 (4 : Int32)))), .val (.int (y1 + (2 : Int32)))] [(.int (own_el vs (y1 + (2 : Int32))))])) (fun _ k => XS.icmpNo X1.here hx rfl (hb hby d2_14) rfl (tlt ((own_lk (k := (2 : Int32)) (n := 2) rfl b0 b3 bl (by decide) (by decide)).mpr ⟨by decide, hc6⟩)).2.1 (XS.aloadN X1.here hx rfl (hb hby d2_17) rfl rfl (XS.iload X1.here hx rfl (hb hby d2_18) rfl (own_ldB X1 hx hZ hh1 V_y0 (j := (y1 + (2 : Int32))) (x := (own_el vs (y1 + (2 : Int32)))) (own_idx (n := 2) rfl b0 b3 (by decide) (by decide)) (own_el_at hI _) rfl rfl (hb hby d2_20) k)))) ?_
            by_cases hc7 : (own_el vs (y1 + (2 : Int32))) = (0 : Int32)
            · refine own_go (T' := T1) (f' := (mkF m 25 #[.val (.ref y0), .val (.int y1), .val (.int y2), .val (.int (y1 + (own_min y2 (4 : Int32)))), .val (.int (y1 + (2 : Int32)))] [(.int (1 : Int32))])) (fun _ k => XS.ifNo X1.here hx rfl (hb hby d2_21) rfl ((if0 _ _).trans (teq hc7).2) (XS.iconst X1.here hx rfl (hb hby d2_24) k)) ?_
              refine own_ret X1 (v := some (.int (1 : Int32))) (fun h => by rw [Bd.returns] at h; cases h) Bd.notSynchronized (fun fs hr => retN X1 hx (t := .boolean) Bd.returns (by simp) (hb hby d2_25) hr) ?_ (by decide) (by decide)
              show Q2 Z y0 y1 y2 kc vs h0 n0 _ T1.heap _
              refine ⟨?_, N1, hh1⟩
              simp [own_b2i, *]
            · refine own_go (T' := T1) (f' := (mkF m 29 #[.val (.ref y0), .val (.int y1), .val (.int y2), .val (.int (y1 + (own_min y2 (4 : Int32)))), .val (.int ((y1 + (2 : Int32)) + (1 : Int32)))] [])) (fun _ k => XS.ifYes X1.here hx rfl (pc0 := 21) (pc' := 26) rfl (hb hby d2_21) rfl ((if0 _ _).trans (feq hc7).2) (by decide) (by decide) (XS.iinc X1.here hx rfl (hb hby d2_26) rfl (l' := #[.val (.ref y0), .val (.int y1), .val (.int y2), .val (.int (y1 + (own_min y2 (4 : Int32)))), .val (.int ((y1 + (2 : Int32)) + (1 : Int32)))]) rfl k)) ?_
              rw [(by rw [Int32.add_assoc]; rfl : ((y1 + (2 : Int32)) + (1 : Int32)) = (y1 + (3 : Int32)))]
              refine own_go (T' := T1) (f' := (mkF m 14 #[.val (.ref y0), .val (.int y1), .val (.int y2), .val (.int (y1 + (own_min y2 (4 : Int32)))), .val (.int (y1 + (3 : Int32)))] [(.int (y1 + (own_min y2 (4 : Int32)))), (.int (y1 + (3 : Int32)))])) (fun _ k => XS.goto X1.here hx rfl (pc0 := 29) (pc' := 11) rfl (hb hby d2_29) (by decide) (by decide) (XS.iload X1.here hx rfl (hb hby d2_11) rfl (XS.iloadN X1.here hx rfl (hb hby d2_13) rfl k))) ?_
              by_cases hc8 : (3 : Int32) < y2
              · refine own_go (T' := T1) (f' := (mkF m 21 #[.val (.ref y0), .val (.int y1), .val (.int y2), .val (.int (y1 + (own_min y2 (4 : Int32)))), .val (.int (y1 + (3 : Int32)))] [(.int (own_el vs (y1 + (3 : Int32))))])) (fun _ k => XS.icmpNo X1.here hx rfl (hb hby d2_14) rfl (tlt ((own_lk (k := (3 : Int32)) (n := 3) rfl b0 b3 bl (by decide) (by decide)).mpr ⟨by decide, hc8⟩)).2.1 (XS.aloadN X1.here hx rfl (hb hby d2_17) rfl rfl (XS.iload X1.here hx rfl (hb hby d2_18) rfl (own_ldB X1 hx hZ hh1 V_y0 (j := (y1 + (3 : Int32))) (x := (own_el vs (y1 + (3 : Int32)))) (own_idx (n := 3) rfl b0 b3 (by decide) (by decide)) (own_el_at hI _) rfl rfl (hb hby d2_20) k)))) ?_
                by_cases hc9 : (own_el vs (y1 + (3 : Int32))) = (0 : Int32)
                · refine own_go (T' := T1) (f' := (mkF m 25 #[.val (.ref y0), .val (.int y1), .val (.int y2), .val (.int (y1 + (own_min y2 (4 : Int32)))), .val (.int (y1 + (3 : Int32)))] [(.int (1 : Int32))])) (fun _ k => XS.ifNo X1.here hx rfl (hb hby d2_21) rfl ((if0 _ _).trans (teq hc9).2) (XS.iconst X1.here hx rfl (hb hby d2_24) k)) ?_
                  refine own_ret X1 (v := some (.int (1 : Int32))) (fun h => by rw [Bd.returns] at h; cases h) Bd.notSynchronized (fun fs hr => retN X1 hx (t := .boolean) Bd.returns (by simp) (hb hby d2_25) hr) ?_ (by decide) (by decide)
                  show Q2 Z y0 y1 y2 kc vs h0 n0 _ T1.heap _
                  refine ⟨?_, N1, hh1⟩
                  simp [own_b2i, *]
                · refine own_go (T' := T1) (f' := (mkF m 29 #[.val (.ref y0), .val (.int y1), .val (.int y2), .val (.int (y1 + (own_min y2 (4 : Int32)))), .val (.int ((y1 + (3 : Int32)) + (1 : Int32)))] [])) (fun _ k => XS.ifYes X1.here hx rfl (pc0 := 21) (pc' := 26) rfl (hb hby d2_21) rfl ((if0 _ _).trans (feq hc9).2) (by decide) (by decide) (XS.iinc X1.here hx rfl (hb hby d2_26) rfl (l' := #[.val (.ref y0), .val (.int y1), .val (.int y2), .val (.int (y1 + (own_min y2 (4 : Int32)))), .val (.int ((y1 + (3 : Int32)) + (1 : Int32)))]) rfl k)) ?_
                  rw [(by rw [Int32.add_assoc]; rfl : ((y1 + (3 : Int32)) + (1 : Int32)) = (y1 + (4 : Int32)))]
                  refine own_go (T' := T1) (f' := (mkF m 33 #[.val (.ref y0), .val (.int y1), .val (.int y2), .val (.int (y1 + (own_min y2 (4 : Int32)))), .val (.int (y1 + (4 : Int32)))] [(.int (0 : Int32))])) (fun _ k => XS.goto X1.here hx rfl (pc0 := 29) (pc' := 11) rfl (hb hby d2_29) (by decide) (by decide) (XS.iload X1.here hx rfl (hb hby d2_11) rfl (XS.iloadN X1.here hx rfl (hb hby d2_13) rfl (XS.icmpYes X1.here hx rfl (pc0 := 14) (pc' := 32) rfl (hb hby d2_14) rfl (flt (fun q => absurd ((own_lk (k := (4 : Int32)) (n := 4) rfl b0 b3 bl (by decide) (by decide)).mp q).1 (by decide))).2.1 (by decide) (by decide) (XS.iconst X1.here hx rfl (hb hby d2_32) k))))) ?_
                  refine own_ret X1 (v := some (.int (0 : Int32))) (fun h => by rw [Bd.returns] at h; cases h) Bd.notSynchronized (fun fs hr => retN X1 hx (t := .boolean) Bd.returns (by simp) (hb hby d2_33) hr) ?_ (by decide) (by decide)
                  show Q2 Z y0 y1 y2 kc vs h0 n0 _ T1.heap _
                  refine ⟨?_, N1, hh1⟩
                  simp [own_b2i, *]
              · refine own_go (T' := T1) (f' := (mkF m 33 #[.val (.ref y0), .val (.int y1), .val (.int y2), .val (.int (y1 + (own_min y2 (4 : Int32)))), .val (.int (y1 + (3 : Int32)))] [(.int (0 : Int32))])) (fun _ k => XS.icmpYes X1.here hx rfl (pc0 := 14) (pc' := 32) rfl (hb hby d2_14) rfl (flt (fun q => hc8 ((own_lk (k := (3 : Int32)) (n := 3) rfl b0 b3 bl (by decide) (by decide)).mp q).2)).2.1 (by decide) (by decide) (XS.iconst X1.here hx rfl (hb hby d2_32) k)) ?_
                refine own_ret X1 (v := some (.int (0 : Int32))) (fun h => by rw [Bd.returns] at h; cases h) Bd.notSynchronized (fun fs hr => retN X1 hx (t := .boolean) Bd.returns (by simp) (hb hby d2_33) hr) ?_ (by decide) (by decide)
                show Q2 Z y0 y1 y2 kc vs h0 n0 _ T1.heap _
                refine ⟨?_, N1, hh1⟩
                simp [own_b2i, *]
          · refine own_go (T' := T1) (f' := (mkF m 33 #[.val (.ref y0), .val (.int y1), .val (.int y2), .val (.int (y1 + (own_min y2 (4 : Int32)))), .val (.int (y1 + (2 : Int32)))] [(.int (0 : Int32))])) (fun _ k => XS.icmpYes X1.here hx rfl (pc0 := 14) (pc' := 32) rfl (hb hby d2_14) rfl (flt (fun q => hc6 ((own_lk (k := (2 : Int32)) (n := 2) rfl b0 b3 bl (by decide) (by decide)).mp q).2)).2.1 (by decide) (by decide) (XS.iconst X1.here hx rfl (hb hby d2_32) k)) ?_
            refine own_ret X1 (v := some (.int (0 : Int32))) (fun h => by rw [Bd.returns] at h; cases h) Bd.notSynchronized (fun fs hr => retN X1 hx (t := .boolean) Bd.returns (by simp) (hb hby d2_33) hr) ?_ (by decide) (by decide)
            show Q2 Z y0 y1 y2 kc vs h0 n0 _ T1.heap _
            refine ⟨?_, N1, hh1⟩
            have hx3 : ¬ (3 : Int32) < y2 := own_nlt hc6 (by decide)
            simp [own_b2i, *]
      · refine own_go (T' := T1) (f' := (mkF m 33 #[.val (.ref y0), .val (.int y1), .val (.int y2), .val (.int (y1 + (own_min y2 (4 : Int32)))), .val (.int (y1 + (1 : Int32)))] [(.int (0 : Int32))])) (fun _ k => XS.icmpYes X1.here hx rfl (pc0 := 14) (pc' := 32) rfl (hb hby d2_14) rfl (flt (fun q => hc4 ((own_lk (k := (1 : Int32)) (n := 1) rfl b0 b3 bl (by decide) (by decide)).mp q).2)).2.1 (by decide) (by decide) (XS.iconst X1.here hx rfl (hb hby d2_32) k)) ?_
        refine own_ret X1 (v := some (.int (0 : Int32))) (fun h => by rw [Bd.returns] at h; cases h) Bd.notSynchronized (fun fs hr => retN X1 hx (t := .boolean) Bd.returns (by simp) (hb hby d2_33) hr) ?_ (by decide) (by decide)
        show Q2 Z y0 y1 y2 kc vs h0 n0 _ T1.heap _
        refine ⟨?_, N1, hh1⟩
        have hx2 : ¬ (2 : Int32) < y2 := own_nlt hc4 (by decide)
        have hx3 : ¬ (3 : Int32) < y2 := own_nlt hc4 (by decide)
        simp [own_b2i, *]
  · refine own_go (T' := T1) (f' := (mkF m 33 #[.val (.ref y0), .val (.int y1), .val (.int y2), .val (.int (y1 + (own_min y2 (4 : Int32)))), .val (.int y1)] [(.int (0 : Int32))])) (fun _ k => XS.icmpYes X1.here hx rfl (pc0 := 14) (pc' := 32) rfl (hb hby d2_14) rfl (flt (fun q => hc2 ((own_lk0 b0 b3 bl).mp q))).2.1 (by decide) (by decide) (XS.iconst X1.here hx rfl (hb hby d2_32) k)) ?_
    refine own_ret X1 (v := some (.int (0 : Int32))) (fun h => by rw [Bd.returns] at h; cases h) Bd.notSynchronized (fun fs hr => retN X1 hx (t := .boolean) Bd.returns (by simp) (hb hby d2_33) hr) ?_ (by decide) (by decide)
    show Q2 Z y0 y1 y2 kc vs h0 n0 _ T1.heap _
    refine ⟨?_, N1, hh1⟩
    have hx1 : ¬ (1 : Int32) < y2 := own_nlt hc2 (by decide)
    have hx2 : ¬ (2 : Int32) < y2 := own_nlt hc2 (by decide)
    have hx3 : ¬ (3 : Int32) < y2 := own_nlt hc2 (by decide)
    simp [own_b2i, *]
theorem pd1 : parseMethodDescriptor "(JII)B" = some ⟨[.long, .int, .int], some .byte⟩ := by decide +kernel
theorem pd2 : parseMethodDescriptor "([BII)Z" = some ⟨[(.array .byte), .int, .int], some .boolean⟩ := by decide +kernel
theorem ef_rm0 (m : MethodId) (q0 : Int64) (p1 : Int32) (p2 : Int32) (p3 : Int32) : entryFrame m #[(.long q0), (.int p1), (.int p2), (.int p3)] maxLocals = mkF m 0 #[.val (.long q0), .second, .val (.int p1), .val (.int p2), .val (.int p3), .unset, .unset, .unset, .unset, .unset] [] := by first | (simp [entryFrame, mkF, argsToLocals, Value.category, maxLocals]; done) | rfl
def Q0 (Z : State) (q0 : Int64) (p1 : Int32) (p2 : Int32) (p3 : Int32) (h0 : Heap) (n0 : Nat) (v : Option Value) (h : Heap) (L : List Loc) : Prop := v = some (.int (1 : Int32)) ∧ Fr n0 L
set_option maxRecDepth 65536 in
set_option maxHeartbeats 40000000 in
theorem rm0 (l : Launch) (Z : State) (a0 : Array Value) (hw : ∀ d ∈ tables_1, d.before a0 Z = true) (ws : List Jvm.Cond) (q0 : Int64) (p1 : Int32) (p2 : Int32) (p3 : Int32) (h0 : Heap) (n0 : Nat) (Z0 : n0 ≤ h0.size) :
    MetFree l x (head1 (Jvm.Cond.code x code maxLocals ret :: ws) room_1) (fun a U => a = #[(.long q0), (.int p1), (.int p2), (.int p3)] ∧ Z.Warmed39 U.vm ∧ U.heap = h0) (fun _ _ _ _ _ => True) (fun _ U o U' => ∃ v L, o = .returned v ∧ Q0 Z q0 p1 p2 p3 h0 n0 v U'.heap L ∧ FrameEnd U o U' L room_1.cells room_1.slots) := by
  refine MetFree.of_bodySF (plainFor_of_name pn_1) hisR ?_
  intro p e s m args below meth c s₁ Bd hml0 hP hK
  obtain ⟨rfl, hZ, hh⟩ := hP
  have hx := Bd.exec
  have hby := Bd.bytes
  have hml : c.maxLocals = 10 := hml0
  have hown : s.vm.findClass "com/example/reckonmill/reckonmill/data/Utf8BytesMistakenForUtf16Or32PinLaw" = some m.cls := findClass_of_methodNamed Bd.named
  have hnm := (name_of_methodNamed Bd.named Bd.method).1
  have X0 : Stand p l e room_1 s m #[(.long q0), (.int p1), (.int p2), (.int p3)] below meth c s₁ [] 0 0 := Stand.of_body Bd
  have e0 : s₁.heap = h0 := by rw [← hh, Bd.state]; rfl
  have N0 := Fr.nil n0
  show own_Ends p e below s (Q0 Z q0 p1 p2 p3 h0 n0) _ _ s₁ _
  rw [ef_rm0 m q0 p1 p2 p3]
  refine own_go (T' := s₁) (f' := (mkF m 5 #[.val (.long q0), .second, .val (.int p1), .val (.int p2), .val (.int p3), .val (.int (p2 &&& (3 : Int32))), .unset, .unset, .unset, .unset] [])) (fun _ k => XS.iloadN X0.here hx rfl (hb hby at_0) rfl (XS.iconst X0.here hx rfl (hb hby at_1) (XS.iand X0.here hx rfl (hb hby at_2) rfl (XS.istore X0.here hx rfl (hb hby at_3) rfl (l' := #[.val (.long q0), .second, .val (.int p1), .val (.int p2), .val (.int p3), .val (.int (p2 &&& (3 : Int32))), .unset, .unset, .unset, .unset]) rfl k)))) ?_
  generalize hzo : (p2 &&& (3 : Int32)) = zo
  have bo : 0 ≤ zo.toInt ∧ zo.toInt ≤ 3 := by rw [← hzo]; exact own_off _
  refine own_go (T' := s₁) (f' := (mkF m 15 #[.val (.long q0), .second, .val (.int p1), .val (.int p2), .val (.int p3), .val (.int zo), .unset, .unset, .unset, .unset] [(.int ((9 : Int32) - zo)), (.int (p3 &&& (2147483647 : Int32)))])) (fun _ k => XS.iload X0.here hx rfl (hb hby at_5) rfl (X0.ldcInt hx hown (mvT hZ (ow0 hw)) (g := (mkF m 7 #[.val (.long q0), .second, .val (.int p1), .val (.int p2), .val (.int p3), .val (.int zo), .unset, .unset, .unset, .unset] [(.int p3)])) rfl (hb hby at_7) _ (XS.iand X0.here hx rfl (hb hby at_9) rfl (XS.bipush X0.here hx rfl (hb hby at_10) (XS.iload X0.here hx rfl (hb hby at_12) rfl (XS.isub X0.here hx rfl (hb hby at_14) rfl k)))))) ?_
  refine own_go (T' := s₁) (f' := (mkF m 18 #[.val (.long q0), .second, .val (.int p1), .val (.int p2), .val (.int p3), .val (.int zo), .val (.int ((p3 &&& (2147483647 : Int32)) % ((9 : Int32) - zo))), .unset, .unset, .unset] [])) (fun _ k => iremM X0 hx rfl (hb hby at_15) rfl (own_nz9 bo.1 bo.2) (XS.istore X0.here hx rfl (hb hby at_16) rfl (l' := #[.val (.long q0), .second, .val (.int p1), .val (.int p2), .val (.int p3), .val (.int zo), .val (.int ((p3 &&& (2147483647 : Int32)) % ((9 : Int32) - zo))), .unset, .unset, .unset]) rfl k)) ?_
  generalize hzl : ((p3 &&& (2147483647 : Int32)) % ((9 : Int32) - zo)) = zl
  have bl : 0 ≤ zl.toInt := by rw [← hzl]; exact own_len bo.1 bo.2
  refine own_go (T' := s₁) (f' := (mkF m 20 #[.val (.long q0), .second, .val (.int p1), .val (.int p2), .val (.int p3), .val (.int zo), .val (.int zl), .unset, .unset, .unset] [(.int (8 : Int32))])) (fun _ k => XS.bipush X0.here hx rfl (hb hby at_18) k) ?_
  obtain ⟨T1, h1, k1, X1, e1, E1, A1, st1⟩ := newP (aty := .byte) X0 hx hZ (ow1 hw) e0 (g := (mkF m 20 #[.val (.long q0), .second, .val (.int p1), .val (.int p2), .val (.int p3), .val (.int zo), .val (.int zl), .unset, .unset, .unset] [(.int (8 : Int32))])) rfl (hb hby at_20) rfl (by decide) (cap := 8) (by decide) (by decide) (by decide) (by decide)
  obtain ⟨b1, g_b1⟩ : ∃ z, z = h0.size := ⟨_, rfl⟩
  have sg_b1 : h0.size ≤ b1 := Nat.le_of_eq g_b1.symm
  rw [← g_b1] at A1 st1
  have n_b1 : n0 ≤ b1 := Nat.le_trans Z0 (Nat.le_of_eq g_b1.symm)
  have sz_b1 : h0.size ≤ b1 := Nat.le_trans (Keep.refl h0 []).1 (Nat.le_of_eq g_b1.symm)
  have K1 : Keep h0 h1 [] := (Keep.refl h0 []).ext E1
  have V_b1 : Arv Z h1 b1 k1 .byte (8 : Int32) [(.int (0 : Int32)), (.int (0 : Int32)), (.int (0 : Int32)), (.int (0 : Int32)), (.int (0 : Int32)), (.int (0 : Int32)), (.int (0 : Int32)), (.int (0 : Int32))] (.int (0 : Int32)) := (Arv.new A1 (by decide)).pad (pad_rep [] (.int (0 : Int32)) 8)
  refine own_go (T' := T1) (f' := (mkF m 29 #[.val (.long q0), .second, .val (.int p1), .val (.int p2), .val (.int p3), .val (.int zo), .val (.int zl), .val (.ref b1), .unset, .unset] [(.int p1), (.long q0), (.int (0 : Int32)), (.ref b1)])) (fun _ k => st1 _ (XS.astore X1.here hx rfl (hb hby at_22) rfl rfl (l' := #[.val (.long q0), .second, .val (.int p1), .val (.int p2), .val (.int p3), .val (.int zo), .val (.int zl), .val (.ref b1), .unset, .unset]) rfl (XS.aload X1.here hx rfl (hb hby at_24) rfl rfl (XS.iconst X1.here hx rfl (hb hby at_26) (XS.lloadN X1.here hx rfl (hb hby at_27) rfl (XS.iloadN X1.here hx rfl (hb hby at_28) rfl k)))))) ?_
  refine own_go (T' := T1) (f' := (mkF m 30 #[.val (.long q0), .second, .val (.int p1), .val (.int p2), .val (.int p3), .val (.int zo), .val (.int zl), .val (.ref b1), .unset, .unset] [(.int (0 : Int32)), (.int p1), (.long q0), (.int (0 : Int32)), (.ref b1)])) (fun _ k => XS.iconst X1.here hx rfl (hb hby at_29) k) ?_
  obtain ⟨_, _, ⟨T2, L2, k2, n2⟩, -, X2, ⟨Lc2, hQ2, l2, y2, z2⟩, st2⟩ := Jvm.LawKit.callS X1 hx (y := mn1) hown (mvT hZ (ow2 hw)) (mvT hZ (ow3 hw)) (mvT hZ (ow4 hw)) (mvT hZ (ow5 hw)) (by decide) (backOf (W := 2) (rm1 l Z a0 hw [] q0 p1 (0 : Int32) h1 n0 (Nat.le_trans Z0 E1.1)) hZ (ow5 hw) (ow4 hw) (by decide) (by decide)) (g := (mkF m 30 #[.val (.long q0), .second, .val (.int p1), .val (.int p2), .val (.int p3), .val (.int zo), .val (.int zl), .val (.ref b1), .unset, .unset] [(.int (0 : Int32)), (.int p1), (.long q0), (.int (0 : Int32)), (.ref b1)])) rfl (by rw [hml]; rfl) (argsL := [(.long q0), (.int p1), (.int (0 : Int32))]) (rest := [(.int (0 : Int32)), (.ref b1)]) (lenOf pd1 rfl) rfl (by show 2 * 0 + _ ≤ _; exact Nat.le_of_eq rfl) (hb hby at_30) (fun _ _ => ⟨rfl, e1, (by decide : 1 + 0 ≤ _), (by decide : 8 + 0 ≤ _)⟩)
  dsimp only [Pt.U, Pt.locs, Pt.cells, Pt.slots] at X2 l2 y2 z2 st2 hQ2
  subst l2 y2 z2
  obtain ⟨c2, rfl, N2q, hh2⟩ := hQ2
  have N2 := Fr.app N0 N2q
  refine own_go (T' := T2) (f' := (mkF m 33 #[.val (.long q0), .second, .val (.int p1), .val (.int p2), .val (.int p3), .val (.int zo), .val (.int zl), .val (.ref b1), .unset, .unset] [(.int c2), (.int (0 : Int32)), (.ref b1)])) (fun _ k => st2 _ k) ?_
  obtain ⟨T3, h3, X3, e3, W3, V3, st3⟩ := own_stB X2 hx hZ hh2 V_b1 (j := (0 : Int32)) ⟨by decide, by decide⟩ 0 rfl (Nat.le_of_ble_eq_true rfl) (g := (mkF m 33 #[.val (.long q0), .second, .val (.int p1), .val (.int p2), .val (.int p3), .val (.int zo), .val (.int zl), .val (.ref b1), .unset, .unset] [(.int c2), (.int (0 : Int32)), (.ref b1)])) rfl rfl (hb hby at_33)
  have K3 : Keep h0 h3 [] := K1.wr W3 (Or.inr sz_b1)
  have N3 := Fr.snoc X3 N2 n_b1
  refine own_go (T' := T3) (f' := (mkF m 40 #[.val (.long q0), .second, .val (.int p1), .val (.int p2), .val (.int p3), .val (.int zo), .val (.int zl), .val (.ref b1), .unset, .unset] [(.int (1 : Int32)), (.int p1), (.long q0), (.int (1 : Int32)), (.ref b1)])) (fun _ k => st3 _ (XS.aload X3.here hx rfl (hb hby at_34) rfl rfl (XS.iconst X3.here hx rfl (hb hby at_36) (XS.lloadN X3.here hx rfl (hb hby at_37) rfl (XS.iloadN X3.here hx rfl (hb hby at_38) rfl (XS.iconst X3.here hx rfl (hb hby at_39) k)))))) ?_
  obtain ⟨_, _, ⟨T4, L4, k4, n4⟩, -, X4, ⟨Lc4, hQ4, l4, y4, z4⟩, st4⟩ := Jvm.LawKit.callS X3 hx (y := mn1) hown (mvT hZ (ow2 hw)) (mvT hZ (ow3 hw)) (mvT hZ (ow4 hw)) (mvT hZ (ow5 hw)) (by decide) (backOf (W := 2) (rm1 l Z a0 hw [] q0 p1 (1 : Int32) h3 n0 (Nat.le_trans (Nat.le_trans Z0 E1.1) (Keep.of_wr W3).1)) hZ (ow5 hw) (ow4 hw) (by decide) (by decide)) (g := (mkF m 40 #[.val (.long q0), .second, .val (.int p1), .val (.int p2), .val (.int p3), .val (.int zo), .val (.int zl), .val (.ref b1), .unset, .unset] [(.int (1 : Int32)), (.int p1), (.long q0), (.int (1 : Int32)), (.ref b1)])) rfl (by rw [hml]; rfl) (argsL := [(.long q0), (.int p1), (.int (1 : Int32))]) (rest := [(.int (1 : Int32)), (.ref b1)]) (lenOf pd1 rfl) rfl (by show 2 * 0 + _ ≤ _; exact Nat.le_of_eq rfl) (hb hby at_40) (fun _ _ => ⟨rfl, e3, (by decide : 1 + 0 ≤ _), (by decide : 8 + 0 ≤ _)⟩)
  dsimp only [Pt.U, Pt.locs, Pt.cells, Pt.slots] at X4 l4 y4 z4 st4 hQ4
  subst l4 y4 z4
  obtain ⟨c4, rfl, N4q, hh4⟩ := hQ4
  have N4 := Fr.app N3 N4q
  refine own_go (T' := T4) (f' := (mkF m 43 #[.val (.long q0), .second, .val (.int p1), .val (.int p2), .val (.int p3), .val (.int zo), .val (.int zl), .val (.ref b1), .unset, .unset] [(.int c4), (.int (1 : Int32)), (.ref b1)])) (fun _ k => st4 _ k) ?_
  obtain ⟨T5, h5, X5, e5, W5, V5, st5⟩ := own_stB X4 hx hZ hh4 V3 (j := (1 : Int32)) ⟨by decide, by decide⟩ 1 rfl (Nat.le_of_ble_eq_true rfl) (g := (mkF m 43 #[.val (.long q0), .second, .val (.int p1), .val (.int p2), .val (.int p3), .val (.int zo), .val (.int zl), .val (.ref b1), .unset, .unset] [(.int c4), (.int (1 : Int32)), (.ref b1)])) rfl rfl (hb hby at_43)
  have K5 : Keep h0 h5 [] := K3.wr W5 (Or.inr sz_b1)
  have N5 := Fr.snoc X5 N4 n_b1
  refine own_go (T' := T5) (f' := (mkF m 50 #[.val (.long q0), .second, .val (.int p1), .val (.int p2), .val (.int p3), .val (.int zo), .val (.int zl), .val (.ref b1), .unset, .unset] [(.int (2 : Int32)), (.int p1), (.long q0), (.int (2 : Int32)), (.ref b1)])) (fun _ k => st5 _ (XS.aload X5.here hx rfl (hb hby at_44) rfl rfl (XS.iconst X5.here hx rfl (hb hby at_46) (XS.lloadN X5.here hx rfl (hb hby at_47) rfl (XS.iloadN X5.here hx rfl (hb hby at_48) rfl (XS.iconst X5.here hx rfl (hb hby at_49) k)))))) ?_
  obtain ⟨_, _, ⟨T6, L6, k6, n6⟩, -, X6, ⟨Lc6, hQ6, l6, y6, z6⟩, st6⟩ := Jvm.LawKit.callS X5 hx (y := mn1) hown (mvT hZ (ow2 hw)) (mvT hZ (ow3 hw)) (mvT hZ (ow4 hw)) (mvT hZ (ow5 hw)) (by decide) (backOf (W := 2) (rm1 l Z a0 hw [] q0 p1 (2 : Int32) h5 n0 (Nat.le_trans (Nat.le_trans (Nat.le_trans Z0 E1.1) (Keep.of_wr W3).1) (Keep.of_wr W5).1)) hZ (ow5 hw) (ow4 hw) (by decide) (by decide)) (g := (mkF m 50 #[.val (.long q0), .second, .val (.int p1), .val (.int p2), .val (.int p3), .val (.int zo), .val (.int zl), .val (.ref b1), .unset, .unset] [(.int (2 : Int32)), (.int p1), (.long q0), (.int (2 : Int32)), (.ref b1)])) rfl (by rw [hml]; rfl) (argsL := [(.long q0), (.int p1), (.int (2 : Int32))]) (rest := [(.int (2 : Int32)), (.ref b1)]) (lenOf pd1 rfl) rfl (by show 2 * 0 + _ ≤ _; exact Nat.le_of_eq rfl) (hb hby at_50) (fun _ _ => ⟨rfl, e5, (by decide : 1 + 0 ≤ _), (by decide : 8 + 0 ≤ _)⟩)
  dsimp only [Pt.U, Pt.locs, Pt.cells, Pt.slots] at X6 l6 y6 z6 st6 hQ6
  subst l6 y6 z6
  obtain ⟨c6, rfl, N6q, hh6⟩ := hQ6
  have N6 := Fr.app N5 N6q
  refine own_go (T' := T6) (f' := (mkF m 53 #[.val (.long q0), .second, .val (.int p1), .val (.int p2), .val (.int p3), .val (.int zo), .val (.int zl), .val (.ref b1), .unset, .unset] [(.int c6), (.int (2 : Int32)), (.ref b1)])) (fun _ k => st6 _ k) ?_
  obtain ⟨T7, h7, X7, e7, W7, V7, st7⟩ := own_stB X6 hx hZ hh6 V5 (j := (2 : Int32)) ⟨by decide, by decide⟩ 2 rfl (Nat.le_of_ble_eq_true rfl) (g := (mkF m 53 #[.val (.long q0), .second, .val (.int p1), .val (.int p2), .val (.int p3), .val (.int zo), .val (.int zl), .val (.ref b1), .unset, .unset] [(.int c6), (.int (2 : Int32)), (.ref b1)])) rfl rfl (hb hby at_53)
  have K7 : Keep h0 h7 [] := K5.wr W7 (Or.inr sz_b1)
  have N7 := Fr.snoc X7 N6 n_b1
  refine own_go (T' := T7) (f' := (mkF m 60 #[.val (.long q0), .second, .val (.int p1), .val (.int p2), .val (.int p3), .val (.int zo), .val (.int zl), .val (.ref b1), .unset, .unset] [(.int (3 : Int32)), (.int p1), (.long q0), (.int (3 : Int32)), (.ref b1)])) (fun _ k => st7 _ (XS.aload X7.here hx rfl (hb hby at_54) rfl rfl (XS.iconst X7.here hx rfl (hb hby at_56) (XS.lloadN X7.here hx rfl (hb hby at_57) rfl (XS.iloadN X7.here hx rfl (hb hby at_58) rfl (XS.iconst X7.here hx rfl (hb hby at_59) k)))))) ?_
  obtain ⟨_, _, ⟨T8, L8, k8, n8⟩, -, X8, ⟨Lc8, hQ8, l8, y8, z8⟩, st8⟩ := Jvm.LawKit.callS X7 hx (y := mn1) hown (mvT hZ (ow2 hw)) (mvT hZ (ow3 hw)) (mvT hZ (ow4 hw)) (mvT hZ (ow5 hw)) (by decide) (backOf (W := 2) (rm1 l Z a0 hw [] q0 p1 (3 : Int32) h7 n0 (Nat.le_trans (Nat.le_trans (Nat.le_trans (Nat.le_trans Z0 E1.1) (Keep.of_wr W3).1) (Keep.of_wr W5).1) (Keep.of_wr W7).1)) hZ (ow5 hw) (ow4 hw) (by decide) (by decide)) (g := (mkF m 60 #[.val (.long q0), .second, .val (.int p1), .val (.int p2), .val (.int p3), .val (.int zo), .val (.int zl), .val (.ref b1), .unset, .unset] [(.int (3 : Int32)), (.int p1), (.long q0), (.int (3 : Int32)), (.ref b1)])) rfl (by rw [hml]; rfl) (argsL := [(.long q0), (.int p1), (.int (3 : Int32))]) (rest := [(.int (3 : Int32)), (.ref b1)]) (lenOf pd1 rfl) rfl (by show 2 * 0 + _ ≤ _; exact Nat.le_of_eq rfl) (hb hby at_60) (fun _ _ => ⟨rfl, e7, (by decide : 1 + 0 ≤ _), (by decide : 8 + 0 ≤ _)⟩)
  dsimp only [Pt.U, Pt.locs, Pt.cells, Pt.slots] at X8 l8 y8 z8 st8 hQ8
  subst l8 y8 z8
  obtain ⟨c8, rfl, N8q, hh8⟩ := hQ8
  have N8 := Fr.app N7 N8q
  refine own_go (T' := T8) (f' := (mkF m 63 #[.val (.long q0), .second, .val (.int p1), .val (.int p2), .val (.int p3), .val (.int zo), .val (.int zl), .val (.ref b1), .unset, .unset] [(.int c8), (.int (3 : Int32)), (.ref b1)])) (fun _ k => st8 _ k) ?_
  obtain ⟨T9, h9, X9, e9, W9, V9, st9⟩ := own_stB X8 hx hZ hh8 V7 (j := (3 : Int32)) ⟨by decide, by decide⟩ 3 rfl (Nat.le_of_ble_eq_true rfl) (g := (mkF m 63 #[.val (.long q0), .second, .val (.int p1), .val (.int p2), .val (.int p3), .val (.int zo), .val (.int zl), .val (.ref b1), .unset, .unset] [(.int c8), (.int (3 : Int32)), (.ref b1)])) rfl rfl (hb hby at_63)
  have K9 : Keep h0 h9 [] := K7.wr W9 (Or.inr sz_b1)
  have N9 := Fr.snoc X9 N8 n_b1
  refine own_go (T' := T9) (f' := (mkF m 70 #[.val (.long q0), .second, .val (.int p1), .val (.int p2), .val (.int p3), .val (.int zo), .val (.int zl), .val (.ref b1), .unset, .unset] [(.int (4 : Int32)), (.int p1), (.long q0), (.int (4 : Int32)), (.ref b1)])) (fun _ k => st9 _ (XS.aload X9.here hx rfl (hb hby at_64) rfl rfl (XS.iconst X9.here hx rfl (hb hby at_66) (XS.lloadN X9.here hx rfl (hb hby at_67) rfl (XS.iloadN X9.here hx rfl (hb hby at_68) rfl (XS.iconst X9.here hx rfl (hb hby at_69) k)))))) ?_
  obtain ⟨_, _, ⟨T10, L10, k10, n10⟩, -, X10, ⟨Lc10, hQ10, l10, y10, z10⟩, st10⟩ := Jvm.LawKit.callS X9 hx (y := mn1) hown (mvT hZ (ow2 hw)) (mvT hZ (ow3 hw)) (mvT hZ (ow4 hw)) (mvT hZ (ow5 hw)) (by decide) (backOf (W := 2) (rm1 l Z a0 hw [] q0 p1 (4 : Int32) h9 n0 (Nat.le_trans (Nat.le_trans (Nat.le_trans (Nat.le_trans (Nat.le_trans Z0 E1.1) (Keep.of_wr W3).1) (Keep.of_wr W5).1) (Keep.of_wr W7).1) (Keep.of_wr W9).1)) hZ (ow5 hw) (ow4 hw) (by decide) (by decide)) (g := (mkF m 70 #[.val (.long q0), .second, .val (.int p1), .val (.int p2), .val (.int p3), .val (.int zo), .val (.int zl), .val (.ref b1), .unset, .unset] [(.int (4 : Int32)), (.int p1), (.long q0), (.int (4 : Int32)), (.ref b1)])) rfl (by rw [hml]; rfl) (argsL := [(.long q0), (.int p1), (.int (4 : Int32))]) (rest := [(.int (4 : Int32)), (.ref b1)]) (lenOf pd1 rfl) rfl (by show 2 * 0 + _ ≤ _; exact Nat.le_of_eq rfl) (hb hby at_70) (fun _ _ => ⟨rfl, e9, (by decide : 1 + 0 ≤ _), (by decide : 8 + 0 ≤ _)⟩)
  dsimp only [Pt.U, Pt.locs, Pt.cells, Pt.slots] at X10 l10 y10 z10 st10 hQ10
  subst l10 y10 z10
  obtain ⟨c10, rfl, N10q, hh10⟩ := hQ10
  have N10 := Fr.app N9 N10q
  refine own_go (T' := T10) (f' := (mkF m 73 #[.val (.long q0), .second, .val (.int p1), .val (.int p2), .val (.int p3), .val (.int zo), .val (.int zl), .val (.ref b1), .unset, .unset] [(.int c10), (.int (4 : Int32)), (.ref b1)])) (fun _ k => st10 _ k) ?_
  obtain ⟨T11, h11, X11, e11, W11, V11, st11⟩ := own_stB X10 hx hZ hh10 V9 (j := (4 : Int32)) ⟨by decide, by decide⟩ 4 rfl (Nat.le_of_ble_eq_true rfl) (g := (mkF m 73 #[.val (.long q0), .second, .val (.int p1), .val (.int p2), .val (.int p3), .val (.int zo), .val (.int zl), .val (.ref b1), .unset, .unset] [(.int c10), (.int (4 : Int32)), (.ref b1)])) rfl rfl (hb hby at_73)
  have K11 : Keep h0 h11 [] := K9.wr W11 (Or.inr sz_b1)
  have N11 := Fr.snoc X11 N10 n_b1
  refine own_go (T' := T11) (f' := (mkF m 80 #[.val (.long q0), .second, .val (.int p1), .val (.int p2), .val (.int p3), .val (.int zo), .val (.int zl), .val (.ref b1), .unset, .unset] [(.int (5 : Int32)), (.int p1), (.long q0), (.int (5 : Int32)), (.ref b1)])) (fun _ k => st11 _ (XS.aload X11.here hx rfl (hb hby at_74) rfl rfl (XS.iconst X11.here hx rfl (hb hby at_76) (XS.lloadN X11.here hx rfl (hb hby at_77) rfl (XS.iloadN X11.here hx rfl (hb hby at_78) rfl (XS.iconst X11.here hx rfl (hb hby at_79) k)))))) ?_
  obtain ⟨_, _, ⟨T12, L12, k12, n12⟩, -, X12, ⟨Lc12, hQ12, l12, y12, z12⟩, st12⟩ := Jvm.LawKit.callS X11 hx (y := mn1) hown (mvT hZ (ow2 hw)) (mvT hZ (ow3 hw)) (mvT hZ (ow4 hw)) (mvT hZ (ow5 hw)) (by decide) (backOf (W := 2) (rm1 l Z a0 hw [] q0 p1 (5 : Int32) h11 n0 (Nat.le_trans (Nat.le_trans (Nat.le_trans (Nat.le_trans (Nat.le_trans (Nat.le_trans Z0 E1.1) (Keep.of_wr W3).1) (Keep.of_wr W5).1) (Keep.of_wr W7).1) (Keep.of_wr W9).1) (Keep.of_wr W11).1)) hZ (ow5 hw) (ow4 hw) (by decide) (by decide)) (g := (mkF m 80 #[.val (.long q0), .second, .val (.int p1), .val (.int p2), .val (.int p3), .val (.int zo), .val (.int zl), .val (.ref b1), .unset, .unset] [(.int (5 : Int32)), (.int p1), (.long q0), (.int (5 : Int32)), (.ref b1)])) rfl (by rw [hml]; rfl) (argsL := [(.long q0), (.int p1), (.int (5 : Int32))]) (rest := [(.int (5 : Int32)), (.ref b1)]) (lenOf pd1 rfl) rfl (by show 2 * 0 + _ ≤ _; exact Nat.le_of_eq rfl) (hb hby at_80) (fun _ _ => ⟨rfl, e11, (by decide : 1 + 0 ≤ _), (by decide : 8 + 0 ≤ _)⟩)
  dsimp only [Pt.U, Pt.locs, Pt.cells, Pt.slots] at X12 l12 y12 z12 st12 hQ12
  subst l12 y12 z12
  obtain ⟨c12, rfl, N12q, hh12⟩ := hQ12
  have N12 := Fr.app N11 N12q
  refine own_go (T' := T12) (f' := (mkF m 83 #[.val (.long q0), .second, .val (.int p1), .val (.int p2), .val (.int p3), .val (.int zo), .val (.int zl), .val (.ref b1), .unset, .unset] [(.int c12), (.int (5 : Int32)), (.ref b1)])) (fun _ k => st12 _ k) ?_
  obtain ⟨T13, h13, X13, e13, W13, V13, st13⟩ := own_stB X12 hx hZ hh12 V11 (j := (5 : Int32)) ⟨by decide, by decide⟩ 5 rfl (Nat.le_of_ble_eq_true rfl) (g := (mkF m 83 #[.val (.long q0), .second, .val (.int p1), .val (.int p2), .val (.int p3), .val (.int zo), .val (.int zl), .val (.ref b1), .unset, .unset] [(.int c12), (.int (5 : Int32)), (.ref b1)])) rfl rfl (hb hby at_83)
  have K13 : Keep h0 h13 [] := K11.wr W13 (Or.inr sz_b1)
  have N13 := Fr.snoc X13 N12 n_b1
  refine own_go (T' := T13) (f' := (mkF m 92 #[.val (.long q0), .second, .val (.int p1), .val (.int p2), .val (.int p3), .val (.int zo), .val (.int zl), .val (.ref b1), .unset, .unset] [(.int (6 : Int32)), (.int p1), (.long q0), (.int (6 : Int32)), (.ref b1)])) (fun _ k => st13 _ (XS.aload X13.here hx rfl (hb hby at_84) rfl rfl (XS.bipush X13.here hx rfl (hb hby at_86) (XS.lloadN X13.here hx rfl (hb hby at_88) rfl (XS.iloadN X13.here hx rfl (hb hby at_89) rfl (XS.bipush X13.here hx rfl (hb hby at_90) k)))))) ?_
  obtain ⟨_, _, ⟨T14, L14, k14, n14⟩, -, X14, ⟨Lc14, hQ14, l14, y14, z14⟩, st14⟩ := Jvm.LawKit.callS X13 hx (y := mn1) hown (mvT hZ (ow2 hw)) (mvT hZ (ow3 hw)) (mvT hZ (ow4 hw)) (mvT hZ (ow5 hw)) (by decide) (backOf (W := 2) (rm1 l Z a0 hw [] q0 p1 (6 : Int32) h13 n0 (Nat.le_trans (Nat.le_trans (Nat.le_trans (Nat.le_trans (Nat.le_trans (Nat.le_trans (Nat.le_trans Z0 E1.1) (Keep.of_wr W3).1) (Keep.of_wr W5).1) (Keep.of_wr W7).1) (Keep.of_wr W9).1) (Keep.of_wr W11).1) (Keep.of_wr W13).1)) hZ (ow5 hw) (ow4 hw) (by decide) (by decide)) (g := (mkF m 92 #[.val (.long q0), .second, .val (.int p1), .val (.int p2), .val (.int p3), .val (.int zo), .val (.int zl), .val (.ref b1), .unset, .unset] [(.int (6 : Int32)), (.int p1), (.long q0), (.int (6 : Int32)), (.ref b1)])) rfl (by rw [hml]; rfl) (argsL := [(.long q0), (.int p1), (.int (6 : Int32))]) (rest := [(.int (6 : Int32)), (.ref b1)]) (lenOf pd1 rfl) rfl (by show 2 * 0 + _ ≤ _; exact Nat.le_of_eq rfl) (hb hby at_92) (fun _ _ => ⟨rfl, e13, (by decide : 1 + 0 ≤ _), (by decide : 8 + 0 ≤ _)⟩)
  dsimp only [Pt.U, Pt.locs, Pt.cells, Pt.slots] at X14 l14 y14 z14 st14 hQ14
  subst l14 y14 z14
  obtain ⟨c14, rfl, N14q, hh14⟩ := hQ14
  have N14 := Fr.app N13 N14q
  refine own_go (T' := T14) (f' := (mkF m 95 #[.val (.long q0), .second, .val (.int p1), .val (.int p2), .val (.int p3), .val (.int zo), .val (.int zl), .val (.ref b1), .unset, .unset] [(.int c14), (.int (6 : Int32)), (.ref b1)])) (fun _ k => st14 _ k) ?_
  obtain ⟨T15, h15, X15, e15, W15, V15, st15⟩ := own_stB X14 hx hZ hh14 V13 (j := (6 : Int32)) ⟨by decide, by decide⟩ 6 rfl (Nat.le_of_ble_eq_true rfl) (g := (mkF m 95 #[.val (.long q0), .second, .val (.int p1), .val (.int p2), .val (.int p3), .val (.int zo), .val (.int zl), .val (.ref b1), .unset, .unset] [(.int c14), (.int (6 : Int32)), (.ref b1)])) rfl rfl (hb hby at_95)
  have K15 : Keep h0 h15 [] := K13.wr W15 (Or.inr sz_b1)
  have N15 := Fr.snoc X15 N14 n_b1
  refine own_go (T' := T15) (f' := (mkF m 104 #[.val (.long q0), .second, .val (.int p1), .val (.int p2), .val (.int p3), .val (.int zo), .val (.int zl), .val (.ref b1), .unset, .unset] [(.int (7 : Int32)), (.int p1), (.long q0), (.int (7 : Int32)), (.ref b1)])) (fun _ k => st15 _ (XS.aload X15.here hx rfl (hb hby at_96) rfl rfl (XS.bipush X15.here hx rfl (hb hby at_98) (XS.lloadN X15.here hx rfl (hb hby at_100) rfl (XS.iloadN X15.here hx rfl (hb hby at_101) rfl (XS.bipush X15.here hx rfl (hb hby at_102) k)))))) ?_
  obtain ⟨_, _, ⟨T16, L16, k16, n16⟩, -, X16, ⟨Lc16, hQ16, l16, y16, z16⟩, st16⟩ := Jvm.LawKit.callS X15 hx (y := mn1) hown (mvT hZ (ow2 hw)) (mvT hZ (ow3 hw)) (mvT hZ (ow4 hw)) (mvT hZ (ow5 hw)) (by decide) (backOf (W := 2) (rm1 l Z a0 hw [] q0 p1 (7 : Int32) h15 n0 (Nat.le_trans (Nat.le_trans (Nat.le_trans (Nat.le_trans (Nat.le_trans (Nat.le_trans (Nat.le_trans (Nat.le_trans Z0 E1.1) (Keep.of_wr W3).1) (Keep.of_wr W5).1) (Keep.of_wr W7).1) (Keep.of_wr W9).1) (Keep.of_wr W11).1) (Keep.of_wr W13).1) (Keep.of_wr W15).1)) hZ (ow5 hw) (ow4 hw) (by decide) (by decide)) (g := (mkF m 104 #[.val (.long q0), .second, .val (.int p1), .val (.int p2), .val (.int p3), .val (.int zo), .val (.int zl), .val (.ref b1), .unset, .unset] [(.int (7 : Int32)), (.int p1), (.long q0), (.int (7 : Int32)), (.ref b1)])) rfl (by rw [hml]; rfl) (argsL := [(.long q0), (.int p1), (.int (7 : Int32))]) (rest := [(.int (7 : Int32)), (.ref b1)]) (lenOf pd1 rfl) rfl (by show 2 * 0 + _ ≤ _; exact Nat.le_of_eq rfl) (hb hby at_104) (fun _ _ => ⟨rfl, e15, (by decide : 1 + 0 ≤ _), (by decide : 8 + 0 ≤ _)⟩)
  dsimp only [Pt.U, Pt.locs, Pt.cells, Pt.slots] at X16 l16 y16 z16 st16 hQ16
  subst l16 y16 z16
  obtain ⟨c16, rfl, N16q, hh16⟩ := hQ16
  have N16 := Fr.app N15 N16q
  refine own_go (T' := T16) (f' := (mkF m 107 #[.val (.long q0), .second, .val (.int p1), .val (.int p2), .val (.int p3), .val (.int zo), .val (.int zl), .val (.ref b1), .unset, .unset] [(.int c16), (.int (7 : Int32)), (.ref b1)])) (fun _ k => st16 _ k) ?_
  obtain ⟨T17, h17, X17, e17, W17, V17, st17⟩ := own_stB X16 hx hZ hh16 V15 (j := (7 : Int32)) ⟨by decide, by decide⟩ 7 rfl (Nat.le_of_ble_eq_true rfl) (g := (mkF m 107 #[.val (.long q0), .second, .val (.int p1), .val (.int p2), .val (.int p3), .val (.int zo), .val (.int zl), .val (.ref b1), .unset, .unset] [(.int c16), (.int (7 : Int32)), (.ref b1)])) rfl rfl (hb hby at_107)
  have K17 : Keep h0 h17 [] := K15.wr W17 (Or.inr sz_b1)
  have N17 := Fr.snoc X17 N16 n_b1
  refine own_go (T' := T17) (f' := (mkF m 108 #[.val (.long q0), .second, .val (.int p1), .val (.int p2), .val (.int p3), .val (.int zo), .val (.int zl), .val (.ref b1), .unset, .unset] [])) (fun _ k => st17 _ k) ?_
  have V_f : Arv Z h17 b1 k1 .byte (8 : Int32) [(.int (nar .byte c2)), (.int (nar .byte c4)), (.int (nar .byte c6)), (.int (nar .byte c8)), (.int (nar .byte c10)), (.int (nar .byte c12)), (.int (nar .byte c14)), (.int (nar .byte c16))] (.int (0 : Int32)) := V17
  obtain ⟨vs, hvs⟩ : ∃ vs : List Value, vs = [(.int (nar .byte c2)), (.int (nar .byte c4)), (.int (nar .byte c6)), (.int (nar .byte c8)), (.int (nar .byte c10)), (.int (nar .byte c12)), (.int (nar .byte c14)), (.int (nar .byte c16))] := ⟨_, rfl⟩
  rw [← hvs] at V_f
  have hI : own_Ints vs := by rw [hvs]; exact (own_ints_cons (own_ints_cons (own_ints_cons (own_ints_cons (own_ints_cons (own_ints_cons (own_ints_cons (own_ints_cons own_ints_nil))))))))
  refine own_go (T' := T17) (f' := (mkF m 114 #[.val (.long q0), .second, .val (.int p1), .val (.int p2), .val (.int p3), .val (.int zo), .val (.int zl), .val (.ref b1), .unset, .unset] [(.int zl), (.int zo), (.ref b1)])) (fun _ k => XS.aload X17.here hx rfl (hb hby at_108) rfl rfl (XS.iload X17.here hx rfl (hb hby at_110) rfl (XS.iload X17.here hx rfl (hb hby at_112) rfl k))) ?_
  obtain ⟨_, _, ⟨T18, L18, k18, n18⟩, -, X18, ⟨Lc18, hQ18, l18, y18, z18⟩, st18⟩ := Jvm.LawKit.callS X17 hx (y := mn2) hown (mvT hZ (ow6 hw)) (mvT hZ (ow7 hw)) (mvT hZ (ow8 hw)) (mvT hZ (ow9 hw)) (by decide) (backOf (W := 0) (rm2 l Z a0 hw [] b1 zo zl k1 vs h17 n0 (Nat.le_trans (Nat.le_trans (Nat.le_trans (Nat.le_trans (Nat.le_trans (Nat.le_trans (Nat.le_trans (Nat.le_trans (Nat.le_trans Z0 E1.1) (Keep.of_wr W3).1) (Keep.of_wr W5).1) (Keep.of_wr W7).1) (Keep.of_wr W9).1) (Keep.of_wr W11).1) (Keep.of_wr W13).1) (Keep.of_wr W15).1) (Keep.of_wr W17).1) V_f hI bo.1 bo.2 bl) hZ (ow9 hw) (ow8 hw) (by decide) (by decide)) (g := (mkF m 114 #[.val (.long q0), .second, .val (.int p1), .val (.int p2), .val (.int p3), .val (.int zo), .val (.int zl), .val (.ref b1), .unset, .unset] [(.int zl), (.int zo), (.ref b1)])) rfl (by rw [hml]; rfl) (argsL := [(.ref b1), (.int zo), (.int zl)]) (rest := []) (lenOf pd2 rfl) rfl (by show 2 * 0 + _ ≤ _; exact Nat.le_of_eq rfl) (hb hby at_114) (fun _ _ => ⟨rfl, e17, (by decide : 1 + 0 ≤ _), (by decide : 8 + 0 ≤ _)⟩)
  dsimp only [Pt.U, Pt.locs, Pt.cells, Pt.slots] at X18 l18 y18 z18 st18 hQ18
  subst l18 y18 z18
  obtain ⟨rfl, N18q, hh18⟩ := hQ18
  have N18 := Fr.app N17 N18q
  refine own_go (T' := T18) (f' := (mkF m 119 #[.val (.long q0), .second, .val (.int p1), .val (.int p2), .val (.int p3), .val (.int zo), .val (.int zl), .val (.ref b1), .val (.int (own_b2i (own_mist vs zo zl))), .unset] [])) (fun _ k => st18 _ (XS.istore X18.here hx rfl (hb hby at_117) rfl (l' := #[.val (.long q0), .second, .val (.int p1), .val (.int p2), .val (.int p3), .val (.int zo), .val (.int zl), .val (.ref b1), .val (.int (own_b2i (own_mist vs zo zl))), .unset]) rfl k)) ?_
  generalize hzg : (own_b2i (own_mist vs zo zl)) = zg
  refine own_go (T' := T18) (f' := (mkF m 121 #[.val (.long q0), .second, .val (.int p1), .val (.int p2), .val (.int p3), .val (.int zo), .val (.int zl), .val (.ref b1), .val (.int zg), .unset] [(.int zl)])) (fun _ k => XS.iload X18.here hx rfl (hb hby at_119) rfl k) ?_
  by_cases hc19 : (0 : Int32) < zl
  · refine own_go (T' := T18) (f' := (mkF m 129 #[.val (.long q0), .second, .val (.int p1), .val (.int p2), .val (.int p3), .val (.int zo), .val (.int zl), .val (.ref b1), .val (.int zg), .unset] [(.int (own_el vs zo))])) (fun _ k => XS.ifNo X18.here hx rfl (hb hby at_121) rfl ((if0 _ _).trans (tlt hc19).2.2.2) (XS.aload X18.here hx rfl (hb hby at_124) rfl rfl (XS.iload X18.here hx rfl (hb hby at_126) rfl (own_ldB X18 hx hZ hh18 V_f (j := zo) (x := (own_el vs zo)) (own_idx0 bo.1 bo.2) (own_el_at hI _) rfl rfl (hb hby at_128) k)))) ?_
    by_cases hc20 : (own_el vs zo) = (0 : Int32)
    · refine own_go (T' := T18) (f' := (mkF m 191 #[.val (.long q0), .second, .val (.int p1), .val (.int p2), .val (.int p3), .val (.int zo), .val (.int zl), .val (.ref b1), .val (.int zg), .val (.int (1 : Int32))] [(.int (1 : Int32)), (.int zg)])) (fun _ k => XS.ifYes X18.here hx rfl (pc0 := 129) (pc' := 180) rfl (hb hby at_129) rfl ((if0 _ _).trans (teq hc20).1) (by decide) (by decide) (XS.iconst X18.here hx rfl (hb hby at_180) (XS.goto X18.here hx rfl (pc0 := 181) (pc' := 185) rfl (hb hby at_181) (by decide) (by decide) (XS.istore X18.here hx rfl (hb hby at_185) rfl (l' := #[.val (.long q0), .second, .val (.int p1), .val (.int p2), .val (.int p3), .val (.int zo), .val (.int zl), .val (.ref b1), .val (.int zg), .val (.int (1 : Int32))]) rfl (XS.iload X18.here hx rfl (hb hby at_187) rfl (XS.iload X18.here hx rfl (hb hby at_189) rfl k)))))) ?_
      refine own_go (T' := T18) (f' := (mkF m 199 #[.val (.long q0), .second, .val (.int p1), .val (.int p2), .val (.int p3), .val (.int zo), .val (.int zl), .val (.ref b1), .val (.int zg), .val (.int (1 : Int32))] [(.int (1 : Int32))])) (fun _ k => XS.icmpNo X18.here hx rfl (hb hby at_191) rfl (teq (by rw [← hzg]; simp [own_b2i, own_mist, hc19, hc20])).2 (XS.iconst X18.here hx rfl (hb hby at_194) (XS.goto X18.here hx rfl (pc0 := 195) (pc' := 199) rfl (hb hby at_195) (by decide) (by decide) k))) ?_
      refine own_ret X18 (v := some (.int (1 : Int32))) (fun h => by rw [Bd.returns] at h; cases h) Bd.notSynchronized (fun fs hr => retN X18 hx (t := .boolean) Bd.returns (by simp) (hb hby at_199) hr) ?_ (by decide) (by decide)
      show Q0 Z q0 p1 p2 p3 h0 n0 _ T18.heap _
      exact ⟨rfl, N18⟩
    · refine own_go (T' := T18) (f' := (mkF m 135 #[.val (.long q0), .second, .val (.int p1), .val (.int p2), .val (.int p3), .val (.int zo), .val (.int zl), .val (.ref b1), .val (.int zg), .unset] [(.int (1 : Int32)), (.int zl)])) (fun _ k => XS.ifNo X18.here hx rfl (hb hby at_129) rfl ((if0 _ _).trans (feq hc20).1) (XS.iload X18.here hx rfl (hb hby at_132) rfl (XS.iconst X18.here hx rfl (hb hby at_134) k))) ?_
      by_cases hc21 : (1 : Int32) < zl
      · refine own_go (T' := T18) (f' := (mkF m 145 #[.val (.long q0), .second, .val (.int p1), .val (.int p2), .val (.int p3), .val (.int zo), .val (.int zl), .val (.ref b1), .val (.int zg), .unset] [(.int (own_el vs (zo + (1 : Int32))))])) (fun _ k => XS.icmpNo X18.here hx rfl (hb hby at_135) rfl (tlt hc21).2.2.2 (XS.aload X18.here hx rfl (hb hby at_138) rfl rfl (XS.iload X18.here hx rfl (hb hby at_140) rfl (XS.iconst X18.here hx rfl (hb hby at_142) (XS.iadd X18.here hx rfl (hb hby at_143) rfl (own_ldB X18 hx hZ hh18 V_f (j := (zo + (1 : Int32))) (x := (own_el vs (zo + (1 : Int32)))) (own_idx (n := 1) rfl bo.1 bo.2 (by decide) (by decide)) (own_el_at hI _) rfl rfl (hb hby at_144) k)))))) ?_
        by_cases hc22 : (own_el vs (zo + (1 : Int32))) = (0 : Int32)
        · refine own_go (T' := T18) (f' := (mkF m 191 #[.val (.long q0), .second, .val (.int p1), .val (.int p2), .val (.int p3), .val (.int zo), .val (.int zl), .val (.ref b1), .val (.int zg), .val (.int (1 : Int32))] [(.int (1 : Int32)), (.int zg)])) (fun _ k => XS.ifYes X18.here hx rfl (pc0 := 145) (pc' := 180) rfl (hb hby at_145) rfl ((if0 _ _).trans (teq hc22).1) (by decide) (by decide) (XS.iconst X18.here hx rfl (hb hby at_180) (XS.goto X18.here hx rfl (pc0 := 181) (pc' := 185) rfl (hb hby at_181) (by decide) (by decide) (XS.istore X18.here hx rfl (hb hby at_185) rfl (l' := #[.val (.long q0), .second, .val (.int p1), .val (.int p2), .val (.int p3), .val (.int zo), .val (.int zl), .val (.ref b1), .val (.int zg), .val (.int (1 : Int32))]) rfl (XS.iload X18.here hx rfl (hb hby at_187) rfl (XS.iload X18.here hx rfl (hb hby at_189) rfl k)))))) ?_
          refine own_go (T' := T18) (f' := (mkF m 199 #[.val (.long q0), .second, .val (.int p1), .val (.int p2), .val (.int p3), .val (.int zo), .val (.int zl), .val (.ref b1), .val (.int zg), .val (.int (1 : Int32))] [(.int (1 : Int32))])) (fun _ k => XS.icmpNo X18.here hx rfl (hb hby at_191) rfl (teq (by rw [← hzg]; simp [own_b2i, own_mist, hc19, hc20, hc21, hc22])).2 (XS.iconst X18.here hx rfl (hb hby at_194) (XS.goto X18.here hx rfl (pc0 := 195) (pc' := 199) rfl (hb hby at_195) (by decide) (by decide) k))) ?_
          refine own_ret X18 (v := some (.int (1 : Int32))) (fun h => by rw [Bd.returns] at h; cases h) Bd.notSynchronized (fun fs hr => retN X18 hx (t := .boolean) Bd.returns (by simp) (hb hby at_199) hr) ?_ (by decide) (by decide)
          show Q0 Z q0 p1 p2 p3 h0 n0 _ T18.heap _
          exact ⟨rfl, N18⟩
        · refine own_go (T' := T18) (f' := (mkF m 151 #[.val (.long q0), .second, .val (.int p1), .val (.int p2), .val (.int p3), .val (.int zo), .val (.int zl), .val (.ref b1), .val (.int zg), .unset] [(.int (2 : Int32)), (.int zl)])) (fun _ k => XS.ifNo X18.here hx rfl (hb hby at_145) rfl ((if0 _ _).trans (feq hc22).1) (XS.iload X18.here hx rfl (hb hby at_148) rfl (XS.iconst X18.here hx rfl (hb hby at_150) k))) ?_
          by_cases hc23 : (2 : Int32) < zl
          · refine own_go (T' := T18) (f' := (mkF m 161 #[.val (.long q0), .second, .val (.int p1), .val (.int p2), .val (.int p3), .val (.int zo), .val (.int zl), .val (.ref b1), .val (.int zg), .unset] [(.int (own_el vs (zo + (2 : Int32))))])) (fun _ k => XS.icmpNo X18.here hx rfl (hb hby at_151) rfl (tlt hc23).2.2.2 (XS.aload X18.here hx rfl (hb hby at_154) rfl rfl (XS.iload X18.here hx rfl (hb hby at_156) rfl (XS.iconst X18.here hx rfl (hb hby at_158) (XS.iadd X18.here hx rfl (hb hby at_159) rfl (own_ldB X18 hx hZ hh18 V_f (j := (zo + (2 : Int32))) (x := (own_el vs (zo + (2 : Int32)))) (own_idx (n := 2) rfl bo.1 bo.2 (by decide) (by decide)) (own_el_at hI _) rfl rfl (hb hby at_160) k)))))) ?_
            by_cases hc24 : (own_el vs (zo + (2 : Int32))) = (0 : Int32)
            · refine own_go (T' := T18) (f' := (mkF m 191 #[.val (.long q0), .second, .val (.int p1), .val (.int p2), .val (.int p3), .val (.int zo), .val (.int zl), .val (.ref b1), .val (.int zg), .val (.int (1 : Int32))] [(.int (1 : Int32)), (.int zg)])) (fun _ k => XS.ifYes X18.here hx rfl (pc0 := 161) (pc' := 180) rfl (hb hby at_161) rfl ((if0 _ _).trans (teq hc24).1) (by decide) (by decide) (XS.iconst X18.here hx rfl (hb hby at_180) (XS.goto X18.here hx rfl (pc0 := 181) (pc' := 185) rfl (hb hby at_181) (by decide) (by decide) (XS.istore X18.here hx rfl (hb hby at_185) rfl (l' := #[.val (.long q0), .second, .val (.int p1), .val (.int p2), .val (.int p3), .val (.int zo), .val (.int zl), .val (.ref b1), .val (.int zg), .val (.int (1 : Int32))]) rfl (XS.iload X18.here hx rfl (hb hby at_187) rfl (XS.iload X18.here hx rfl (hb hby at_189) rfl k)))))) ?_
              refine own_go (T' := T18) (f' := (mkF m 199 #[.val (.long q0), .second, .val (.int p1), .val (.int p2), .val (.int p3), .val (.int zo), .val (.int zl), .val (.ref b1), .val (.int zg), .val (.int (1 : Int32))] [(.int (1 : Int32))])) (fun _ k => XS.icmpNo X18.here hx rfl (hb hby at_191) rfl (teq (by rw [← hzg]; simp [own_b2i, own_mist, hc19, hc20, hc21, hc22, hc23, hc24])).2 (XS.iconst X18.here hx rfl (hb hby at_194) (XS.goto X18.here hx rfl (pc0 := 195) (pc' := 199) rfl (hb hby at_195) (by decide) (by decide) k))) ?_
              refine own_ret X18 (v := some (.int (1 : Int32))) (fun h => by rw [Bd.returns] at h; cases h) Bd.notSynchronized (fun fs hr => retN X18 hx (t := .boolean) Bd.returns (by simp) (hb hby at_199) hr) ?_ (by decide) (by decide)
              show Q0 Z q0 p1 p2 p3 h0 n0 _ T18.heap _
              exact ⟨rfl, N18⟩
            · refine own_go (T' := T18) (f' := (mkF m 167 #[.val (.long q0), .second, .val (.int p1), .val (.int p2), .val (.int p3), .val (.int zo), .val (.int zl), .val (.ref b1), .val (.int zg), .unset] [(.int (3 : Int32)), (.int zl)])) (fun _ k => XS.ifNo X18.here hx rfl (hb hby at_161) rfl ((if0 _ _).trans (feq hc24).1) (XS.iload X18.here hx rfl (hb hby at_164) rfl (XS.iconst X18.here hx rfl (hb hby at_166) k))) ?_
              by_cases hc25 : (3 : Int32) < zl
              · refine own_go (T' := T18) (f' := (mkF m 177 #[.val (.long q0), .second, .val (.int p1), .val (.int p2), .val (.int p3), .val (.int zo), .val (.int zl), .val (.ref b1), .val (.int zg), .unset] [(.int (own_el vs (zo + (3 : Int32))))])) (fun _ k => XS.icmpNo X18.here hx rfl (hb hby at_167) rfl (tlt hc25).2.2.2 (XS.aload X18.here hx rfl (hb hby at_170) rfl rfl (XS.iload X18.here hx rfl (hb hby at_172) rfl (XS.iconst X18.here hx rfl (hb hby at_174) (XS.iadd X18.here hx rfl (hb hby at_175) rfl (own_ldB X18 hx hZ hh18 V_f (j := (zo + (3 : Int32))) (x := (own_el vs (zo + (3 : Int32)))) (own_idx (n := 3) rfl bo.1 bo.2 (by decide) (by decide)) (own_el_at hI _) rfl rfl (hb hby at_176) k)))))) ?_
                by_cases hc26 : (own_el vs (zo + (3 : Int32))) = (0 : Int32)
                · refine own_go (T' := T18) (f' := (mkF m 191 #[.val (.long q0), .second, .val (.int p1), .val (.int p2), .val (.int p3), .val (.int zo), .val (.int zl), .val (.ref b1), .val (.int zg), .val (.int (1 : Int32))] [(.int (1 : Int32)), (.int zg)])) (fun _ k => XS.ifNo X18.here hx rfl (hb hby at_177) rfl ((if0 _ _).trans (teq hc26).2) (XS.iconst X18.here hx rfl (hb hby at_180) (XS.goto X18.here hx rfl (pc0 := 181) (pc' := 185) rfl (hb hby at_181) (by decide) (by decide) (XS.istore X18.here hx rfl (hb hby at_185) rfl (l' := #[.val (.long q0), .second, .val (.int p1), .val (.int p2), .val (.int p3), .val (.int zo), .val (.int zl), .val (.ref b1), .val (.int zg), .val (.int (1 : Int32))]) rfl (XS.iload X18.here hx rfl (hb hby at_187) rfl (XS.iload X18.here hx rfl (hb hby at_189) rfl k)))))) ?_
                  refine own_go (T' := T18) (f' := (mkF m 199 #[.val (.long q0), .second, .val (.int p1), .val (.int p2), .val (.int p3), .val (.int zo), .val (.int zl), .val (.ref b1), .val (.int zg), .val (.int (1 : Int32))] [(.int (1 : Int32))])) (fun _ k => XS.icmpNo X18.here hx rfl (hb hby at_191) rfl (teq (by rw [← hzg]; simp [own_b2i, own_mist, hc19, hc20, hc21, hc22, hc23, hc24, hc25, hc26])).2 (XS.iconst X18.here hx rfl (hb hby at_194) (XS.goto X18.here hx rfl (pc0 := 195) (pc' := 199) rfl (hb hby at_195) (by decide) (by decide) k))) ?_
                  refine own_ret X18 (v := some (.int (1 : Int32))) (fun h => by rw [Bd.returns] at h; cases h) Bd.notSynchronized (fun fs hr => retN X18 hx (t := .boolean) Bd.returns (by simp) (hb hby at_199) hr) ?_ (by decide) (by decide)
                  show Q0 Z q0 p1 p2 p3 h0 n0 _ T18.heap _
                  exact ⟨rfl, N18⟩
                · refine own_go (T' := T18) (f' := (mkF m 194 #[.val (.long q0), .second, .val (.int p1), .val (.int p2), .val (.int p3), .val (.int zo), .val (.int zl), .val (.ref b1), .val (.int zg), .val (.int (0 : Int32))] [])) (fun _ k => XS.ifYes X18.here hx rfl (pc0 := 177) (pc' := 184) rfl (hb hby at_177) rfl ((if0 _ _).trans (feq hc26).2) (by decide) (by decide) (XS.iconst X18.here hx rfl (hb hby at_184) (XS.istore X18.here hx rfl (hb hby at_185) rfl (l' := #[.val (.long q0), .second, .val (.int p1), .val (.int p2), .val (.int p3), .val (.int zo), .val (.int zl), .val (.ref b1), .val (.int zg), .val (.int (0 : Int32))]) rfl (XS.iload X18.here hx rfl (hb hby at_187) rfl (XS.iload X18.here hx rfl (hb hby at_189) rfl (XS.icmpNo X18.here hx rfl (hb hby at_191) rfl (teq (by rw [← hzg]; simp [own_b2i, own_mist, hc19, hc20, hc21, hc22, hc23, hc24, hc25, hc26])).2 k)))))) ?_
                  refine own_go (T' := T18) (f' := (mkF m 199 #[.val (.long q0), .second, .val (.int p1), .val (.int p2), .val (.int p3), .val (.int zo), .val (.int zl), .val (.ref b1), .val (.int zg), .val (.int (0 : Int32))] [(.int (1 : Int32))])) (fun _ k => XS.iconst X18.here hx rfl (hb hby at_194) (XS.goto X18.here hx rfl (pc0 := 195) (pc' := 199) rfl (hb hby at_195) (by decide) (by decide) k)) ?_
                  refine own_ret X18 (v := some (.int (1 : Int32))) (fun h => by rw [Bd.returns] at h; cases h) Bd.notSynchronized (fun fs hr => retN X18 hx (t := .boolean) Bd.returns (by simp) (hb hby at_199) hr) ?_ (by decide) (by decide)
                  show Q0 Z q0 p1 p2 p3 h0 n0 _ T18.heap _
                  exact ⟨rfl, N18⟩
              · refine own_go (T' := T18) (f' := (mkF m 194 #[.val (.long q0), .second, .val (.int p1), .val (.int p2), .val (.int p3), .val (.int zo), .val (.int zl), .val (.ref b1), .val (.int zg), .val (.int (0 : Int32))] [])) (fun _ k => XS.icmpYes X18.here hx rfl (pc0 := 167) (pc' := 184) rfl (hb hby at_167) rfl (flt hc25).2.2.2 (by decide) (by decide) (XS.iconst X18.here hx rfl (hb hby at_184) (XS.istore X18.here hx rfl (hb hby at_185) rfl (l' := #[.val (.long q0), .second, .val (.int p1), .val (.int p2), .val (.int p3), .val (.int zo), .val (.int zl), .val (.ref b1), .val (.int zg), .val (.int (0 : Int32))]) rfl (XS.iload X18.here hx rfl (hb hby at_187) rfl (XS.iload X18.here hx rfl (hb hby at_189) rfl (XS.icmpNo X18.here hx rfl (hb hby at_191) rfl (teq (by rw [← hzg]; simp [own_b2i, own_mist, hc19, hc20, hc21, hc22, hc23, hc24, hc25])).2 k)))))) ?_
                refine own_go (T' := T18) (f' := (mkF m 199 #[.val (.long q0), .second, .val (.int p1), .val (.int p2), .val (.int p3), .val (.int zo), .val (.int zl), .val (.ref b1), .val (.int zg), .val (.int (0 : Int32))] [(.int (1 : Int32))])) (fun _ k => XS.iconst X18.here hx rfl (hb hby at_194) (XS.goto X18.here hx rfl (pc0 := 195) (pc' := 199) rfl (hb hby at_195) (by decide) (by decide) k)) ?_
                refine own_ret X18 (v := some (.int (1 : Int32))) (fun h => by rw [Bd.returns] at h; cases h) Bd.notSynchronized (fun fs hr => retN X18 hx (t := .boolean) Bd.returns (by simp) (hb hby at_199) hr) ?_ (by decide) (by decide)
                show Q0 Z q0 p1 p2 p3 h0 n0 _ T18.heap _
                exact ⟨rfl, N18⟩
          · refine own_go (T' := T18) (f' := (mkF m 187 #[.val (.long q0), .second, .val (.int p1), .val (.int p2), .val (.int p3), .val (.int zo), .val (.int zl), .val (.ref b1), .val (.int zg), .val (.int (0 : Int32))] [])) (fun _ k => XS.icmpYes X18.here hx rfl (pc0 := 151) (pc' := 164) rfl (hb hby at_151) rfl (flt hc23).2.2.2 (by decide) (by decide) (XS.iload X18.here hx rfl (hb hby at_164) rfl (XS.iconst X18.here hx rfl (hb hby at_166) (XS.icmpYes X18.here hx rfl (pc0 := 167) (pc' := 184) rfl (hb hby at_167) rfl (flt (own_nlt hc23 (by decide))).2.2.2 (by decide) (by decide) (XS.iconst X18.here hx rfl (hb hby at_184) (XS.istore X18.here hx rfl (hb hby at_185) rfl (l' := #[.val (.long q0), .second, .val (.int p1), .val (.int p2), .val (.int p3), .val (.int zo), .val (.int zl), .val (.ref b1), .val (.int zg), .val (.int (0 : Int32))]) rfl k)))))) ?_
            refine own_go (T' := T18) (f' := (mkF m 191 #[.val (.long q0), .second, .val (.int p1), .val (.int p2), .val (.int p3), .val (.int zo), .val (.int zl), .val (.ref b1), .val (.int zg), .val (.int (0 : Int32))] [(.int (0 : Int32)), (.int zg)])) (fun _ k => XS.iload X18.here hx rfl (hb hby at_187) rfl (XS.iload X18.here hx rfl (hb hby at_189) rfl k)) ?_
            have hx3 : ¬ (3 : Int32) < zl := own_nlt hc23 (by decide)
            refine own_go (T' := T18) (f' := (mkF m 199 #[.val (.long q0), .second, .val (.int p1), .val (.int p2), .val (.int p3), .val (.int zo), .val (.int zl), .val (.ref b1), .val (.int zg), .val (.int (0 : Int32))] [(.int (1 : Int32))])) (fun _ k => XS.icmpNo X18.here hx rfl (hb hby at_191) rfl (teq (by rw [← hzg]; simp [own_b2i, own_mist, hx3, hc19, hc20, hc21, hc22, hc23])).2 (XS.iconst X18.here hx rfl (hb hby at_194) (XS.goto X18.here hx rfl (pc0 := 195) (pc' := 199) rfl (hb hby at_195) (by decide) (by decide) k))) ?_
            refine own_ret X18 (v := some (.int (1 : Int32))) (fun h => by rw [Bd.returns] at h; cases h) Bd.notSynchronized (fun fs hr => retN X18 hx (t := .boolean) Bd.returns (by simp) (hb hby at_199) hr) ?_ (by decide) (by decide)
            show Q0 Z q0 p1 p2 p3 h0 n0 _ T18.heap _
            exact ⟨rfl, N18⟩
      · refine own_go (T' := T18) (f' := (mkF m 167 #[.val (.long q0), .second, .val (.int p1), .val (.int p2), .val (.int p3), .val (.int zo), .val (.int zl), .val (.ref b1), .val (.int zg), .unset] [(.int (3 : Int32)), (.int zl)])) (fun _ k => XS.icmpYes X18.here hx rfl (pc0 := 135) (pc' := 148) rfl (hb hby at_135) rfl (flt hc21).2.2.2 (by decide) (by decide) (XS.iload X18.here hx rfl (hb hby at_148) rfl (XS.iconst X18.here hx rfl (hb hby at_150) (XS.icmpYes X18.here hx rfl (pc0 := 151) (pc' := 164) rfl (hb hby at_151) rfl (flt (own_nlt hc21 (by decide))).2.2.2 (by decide) (by decide) (XS.iload X18.here hx rfl (hb hby at_164) rfl (XS.iconst X18.here hx rfl (hb hby at_166) k)))))) ?_
        refine own_go (T' := T18) (f' := (mkF m 191 #[.val (.long q0), .second, .val (.int p1), .val (.int p2), .val (.int p3), .val (.int zo), .val (.int zl), .val (.ref b1), .val (.int zg), .val (.int (0 : Int32))] [(.int (0 : Int32)), (.int zg)])) (fun _ k => XS.icmpYes X18.here hx rfl (pc0 := 167) (pc' := 184) rfl (hb hby at_167) rfl (flt (own_nlt hc21 (by decide))).2.2.2 (by decide) (by decide) (XS.iconst X18.here hx rfl (hb hby at_184) (XS.istore X18.here hx rfl (hb hby at_185) rfl (l' := #[.val (.long q0), .second, .val (.int p1), .val (.int p2), .val (.int p3), .val (.int zo), .val (.int zl), .val (.ref b1), .val (.int zg), .val (.int (0 : Int32))]) rfl (XS.iload X18.here hx rfl (hb hby at_187) rfl (XS.iload X18.here hx rfl (hb hby at_189) rfl k))))) ?_
        have hx2 : ¬ (2 : Int32) < zl := own_nlt hc21 (by decide)
        have hx3 : ¬ (3 : Int32) < zl := own_nlt hc21 (by decide)
        refine own_go (T' := T18) (f' := (mkF m 199 #[.val (.long q0), .second, .val (.int p1), .val (.int p2), .val (.int p3), .val (.int zo), .val (.int zl), .val (.ref b1), .val (.int zg), .val (.int (0 : Int32))] [(.int (1 : Int32))])) (fun _ k => XS.icmpNo X18.here hx rfl (hb hby at_191) rfl (teq (by rw [← hzg]; simp [own_b2i, own_mist, hx2, hx3, hc19, hc20, hc21])).2 (XS.iconst X18.here hx rfl (hb hby at_194) (XS.goto X18.here hx rfl (pc0 := 195) (pc' := 199) rfl (hb hby at_195) (by decide) (by decide) k))) ?_
        refine own_ret X18 (v := some (.int (1 : Int32))) (fun h => by rw [Bd.returns] at h; cases h) Bd.notSynchronized (fun fs hr => retN X18 hx (t := .boolean) Bd.returns (by simp) (hb hby at_199) hr) ?_ (by decide) (by decide)
        show Q0 Z q0 p1 p2 p3 h0 n0 _ T18.heap _
        exact ⟨rfl, N18⟩
  · refine own_go (T' := T18) (f' := (mkF m 151 #[.val (.long q0), .second, .val (.int p1), .val (.int p2), .val (.int p3), .val (.int zo), .val (.int zl), .val (.ref b1), .val (.int zg), .unset] [(.int (2 : Int32)), (.int zl)])) (fun _ k => XS.ifYes X18.here hx rfl (pc0 := 121) (pc' := 132) rfl (hb hby at_121) rfl ((if0 _ _).trans (flt hc19).2.2.2) (by decide) (by decide) (XS.iload X18.here hx rfl (hb hby at_132) rfl (XS.iconst X18.here hx rfl (hb hby at_134) (XS.icmpYes X18.here hx rfl (pc0 := 135) (pc' := 148) rfl (hb hby at_135) rfl (flt (own_nlt hc19 (by decide))).2.2.2 (by decide) (by decide) (XS.iload X18.here hx rfl (hb hby at_148) rfl (XS.iconst X18.here hx rfl (hb hby at_150) k)))))) ?_
    refine own_go (T' := T18) (f' := (mkF m 187 #[.val (.long q0), .second, .val (.int p1), .val (.int p2), .val (.int p3), .val (.int zo), .val (.int zl), .val (.ref b1), .val (.int zg), .val (.int (0 : Int32))] [])) (fun _ k => XS.icmpYes X18.here hx rfl (pc0 := 151) (pc' := 164) rfl (hb hby at_151) rfl (flt (own_nlt hc19 (by decide))).2.2.2 (by decide) (by decide) (XS.iload X18.here hx rfl (hb hby at_164) rfl (XS.iconst X18.here hx rfl (hb hby at_166) (XS.icmpYes X18.here hx rfl (pc0 := 167) (pc' := 184) rfl (hb hby at_167) rfl (flt (own_nlt hc19 (by decide))).2.2.2 (by decide) (by decide) (XS.iconst X18.here hx rfl (hb hby at_184) (XS.istore X18.here hx rfl (hb hby at_185) rfl (l' := #[.val (.long q0), .second, .val (.int p1), .val (.int p2), .val (.int p3), .val (.int zo), .val (.int zl), .val (.ref b1), .val (.int zg), .val (.int (0 : Int32))]) rfl k)))))) ?_
    refine own_go (T' := T18) (f' := (mkF m 191 #[.val (.long q0), .second, .val (.int p1), .val (.int p2), .val (.int p3), .val (.int zo), .val (.int zl), .val (.ref b1), .val (.int zg), .val (.int (0 : Int32))] [(.int (0 : Int32)), (.int zg)])) (fun _ k => XS.iload X18.here hx rfl (hb hby at_187) rfl (XS.iload X18.here hx rfl (hb hby at_189) rfl k)) ?_
    have hx1 : ¬ (1 : Int32) < zl := own_nlt hc19 (by decide)
    have hx2 : ¬ (2 : Int32) < zl := own_nlt hc19 (by decide)
    have hx3 : ¬ (3 : Int32) < zl := own_nlt hc19 (by decide)
    refine own_go (T' := T18) (f' := (mkF m 199 #[.val (.long q0), .second, .val (.int p1), .val (.int p2), .val (.int p3), .val (.int zo), .val (.int zl), .val (.ref b1), .val (.int zg), .val (.int (0 : Int32))] [(.int (1 : Int32))])) (fun _ k => XS.icmpNo X18.here hx rfl (hb hby at_191) rfl (teq (by rw [← hzg]; simp [own_b2i, own_mist, hx1, hx2, hx3, hc19])).2 (XS.iconst X18.here hx rfl (hb hby at_194) (XS.goto X18.here hx rfl (pc0 := 195) (pc' := 199) rfl (hb hby at_195) (by decide) (by decide) k))) ?_
    refine own_ret X18 (v := some (.int (1 : Int32))) (fun h => by rw [Bd.returns] at h; cases h) Bd.notSynchronized (fun fs hr => retN X18 hx (t := .boolean) Bd.returns (by simp) (hb hby at_199) hr) ?_ (by decide) (by decide)
    show Q0 Z q0 p1 p2 p3 h0 n0 _ T18.heap _
    exact ⟨rfl, N18⟩
set_option maxRecDepth 65536 in
set_option maxHeartbeats 40000000 in
theorem comes_1 {Post : Tables → Env → Array Value → State → Outcome → State → Prop} (hpost : ∀ tb e args s v u, (limb_1_1.after args s (.returned v) u = true ∧ limb_1_2.after args s (.returned v) u = true ∧ True) → FrameEnd s (.returned v) u (Jvm.fieldLocs frame_1_writes args s ++ Jvm.arrayLocs frame_1_arrays args s ++ Jvm.staticLocs frame_1_statics s) 16 128 → Post tb e args s (.returned v) u) :
    ArmFor flags0 classFile x code maxLocals ret World_1 tables_1 room_1 Calls_1 rest_1 Pre_1 Post := by
  intro l hfl _ _ p e ha hc hk s m args below hf hA hF happ hP
  obtain ⟨hcalls, hrest, hpre⟩ := hP
  obtain ⟨-, -, -, hnamed, -, -, -, hat⟩ := (Spec.applies_iff hf).mp happ
  obtain ⟨hg, hn⟩ := and_e (Cond.before_iff.mp (show (Jvm.Cond.and given_1 narrow_1).before args s = true from hpre))
  obtain ⟨hg_2, hg_3⟩ := and_e hg
  obtain ⟨hg_4, hg_5⟩ := and_e hg_3
  obtain ⟨hg_6, hg_7⟩ := and_e hg_5
  obtain ⟨hg_8, hg_9⟩ := and_e hg_7
  obtain ⟨w0, w1, w2, w3, rfl⟩ : ∃ w0 w1 w2 w3 : Value, args = #[w0, w1, w2, w3] := by
    have hs : args.size = 4 := by simpa [Cond.value, given_1] using hg_2
    obtain ⟨L⟩ := args
    match L, hs with
    | [w0, w1, w2, w3], _ => exact ⟨w0, w1, w2, w3, rfl⟩
  have hw := fun d (hd : d ∈ tables_1) => atoms_spec (ws := Jvm.Cond.code x code maxLocals ret :: tables_1) hat d (List.mem_cons_of_mem _ hd)
  have hfit : Fit s := fun {y c} hc i hi => by
    obtain ⟨ha, rfl⟩ := Array.getElem?_eq_some_iff.mp hc
    have q := List.all_eq_true.mp ((Array.all_eq_true_iff_forall_mem.mp hF) _ (Array.getElem_mem ha)) i (List.mem_range.mpr hi)
    simpa [Array.getElem?_eq_getElem hi] using q
  obtain ⟨i0, ei0⟩ := isL_v hg_4
  obtain rfl : w0 = (.long i0) := Option.some.inj ei0
  obtain ⟨i1, ei1⟩ := is_v hg_6
  obtain rfl : w1 = (.int i1) := Option.some.inj ei1
  obtain ⟨i2, ei2⟩ := is_v hg_8
  obtain rfl : w2 = (.int i2) := Option.some.inj ei2
  obtain ⟨i3, ei3⟩ := is_v hg_9
  obtain rfl : w3 = (.int i3) := Option.some.inj ei3
  obtain ⟨n, o, h1, h2, h3, _, L, rfl, ⟨rfl, N⟩, hq⟩ := rm0 l s _ hw tables_1 i0 i1 i2 i3 s.heap s.heap.size (Nat.le_refl _) p e ha hc hk s m _ below hf ((Spec.applies_iff_loose hf).mp happ).1 ⟨rfl, State.Warmed39.refl s, rfl⟩ trivial
  refine ⟨n, _, h1, h2, h3, hpost _ _ _ _ _ _ ⟨Cond.after_iff.mpr rfl, Cond.after_iff.mpr (eq_i res_at (Term.int_eval (1)) rfl), trivial⟩ ⟨hq.1, hq.2.1, (hq.2.2.sift fun y hy => Or.inr (N y hy)).mono (by decide) (by decide)⟩⟩
theorem main_1_1 : Claimed_1_1 := comes_1 fun _ _ _ _ _ _ h hF => ⟨h.1, hF⟩
theorem main_1_2 : Claimed_1_2 := comes_1 fun _ _ _ _ _ _ h hF => ⟨h.2.1, hF⟩
end Jvm.Pilot.@@N@@
namespace Jvm.Pilot.@@N@@
open Jvm Jvm.ClassFile Sem Op Lib Jvm.Free Jvm.Stand Jvm.Pilot.@@N@@.Jvm.D
/-! MADE BY PROGRAM (witnessworld.py) out of the Statement's table words and the real class files: 10 classes; the members and pool entries that the words name. The judged class is class 1, her method 2. -/
namespace start1
open Jvm.ClassFile
def u (s : String) : CpInfo := .utf8 (stringToUtf16 s)
/-- a pool by its gaps: so many unusable entries, then the entry; so many at the end -/
def gap : Nat → List CpInfo → List CpInfo
  | 0, r => r
  | n + 1, r => .unusable :: gap n r
def poolList (es : List (Nat × CpInfo)) (last : Nat) : List CpInfo := es.foldr (fun e r => gap e.1 (e.2 :: r)) (gap last [])
def pool (es : List (Nat × CpInfo)) (last : Nat) : Array CpInfo := ⟨poolList es last⟩
def fileOf (pool : Array CpInfo) (this : Nat) (attrs : Array Attribute := #[]) (ms : Array MethodInfo := #[]) (fl : Nat := 33) (sup : Nat := 0) (ifs : Array Nat := #[]) (fds : Array FieldInfo := #[]) : ClassFile where
  minorVersion := 0
  majorVersion := 65
  constantPool := pool
  accessFlags := fl
  thisClass := this
  superClass := sup
  interfaces := ifs
  fields := fds
  methods := ms
  attributes := attrs
def plain (name : String) (sup : Option ClassId) : Class where
  name := name
  kind := .ordinary
  loader := none
  accessFlags := 33
  super := sup
  interfaces := #[]
  cf := none
  fields := #[]
  methods := #[]
  instanceTypes := #[]
  staticTypes := #[]
  resolved := #[]
  callSites := []
  init := .initialized
  statics := none
  mirror := none

def pool0 : Array CpInfo := pool [(5, u "<init>"), (0, u "()V"), (1, .class_ 10), (1, u "java/lang/Object")] 113

def k0m0 : Method := { name := "<init>", desc := "()V", sig := { parameters := [], returnType := none }, accessFlags := 1, code := none }
/-- java/lang/Object -/
def k0 : Class := { plain "java/lang/Object" none with
  accessFlags := 33
  interfaces := #[]
  cf := some (fileOf pool0 8 #[] #[{ accessFlags := 1, nameIndex := 5, descriptorIndex := 6, attributes := #[] }] 33 0 #[] #[])
  fields := #[]
  methods := #[k0m0]
  instanceTypes := #[]
  staticTypes := #[]
  resolved := Array.replicate 124 none
  statics := none }

def pool1 : Array CpInfo := pool [(2, .class_ 4), (1, u "java/lang/Object"), (0, u "<init>"), (0, u "()V"), (0, .integer 2147483647), (0, .methodref 9 10), (0, .class_ 11), (0, .nameAndType 12 13), (0, u "com/example/reckonmill/reckonmill/data/Utf8BytesMistakenForUtf16Or32PinLaw"), (0, u "cell"), (0, u "(JII)B"), (0, .methodref 15 16), (0, .class_ 17), (0, .nameAndType 18 19), (0, u "com/example/reckonmill/reckonmill/data/Utf8Bytes"), (0, u "mistakenForUtf16Or32"), (0, u "([BII)Z"), (3, u "law"), (0, u "(JIII)Z")] 4

def k1m0 : Method := { name := "<init>", desc := "()V", sig := { parameters := [], returnType := none }, accessFlags := 1, code := none }
def k1c1 : Code := { maxStack := 4, maxLocals := 4, code := method_2_code, exceptionTable := #[], attributes := #[] }
def k1m1 : Method := { name := "cell", desc := "(JII)B", sig := { parameters := [.long, .int, .int], returnType := some .byte }, accessFlags := 10, code := some k1c1 }
def k1c2 : Code := { maxStack := 6, maxLocals := 10, code := code, exceptionTable := #[], attributes := #[] }
def k1m2 : Method := { name := "law", desc := "(JIII)Z", sig := { parameters := [.long, .int, .int, .int], returnType := some .boolean }, accessFlags := 9, code := some k1c2 }
/-- com/example/reckonmill/reckonmill/data/Utf8BytesMistakenForUtf16Or32PinLaw -/
def k1 : Class := { plain "com/example/reckonmill/reckonmill/data/Utf8BytesMistakenForUtf16Or32PinLaw" (some 0) with
  accessFlags := 49
  interfaces := #[]
  cf := some (fileOf pool1 9 #[] #[{ accessFlags := 1, nameIndex := 5, descriptorIndex := 6, attributes := #[] }, { accessFlags := 10, nameIndex := 12, descriptorIndex := 13, attributes := #[] }, { accessFlags := 9, nameIndex := 23, descriptorIndex := 24, attributes := #[] }] 49 2 #[] #[])
  fields := #[]
  methods := #[k1m0, k1m1, k1m2]
  instanceTypes := #[]
  staticTypes := #[]
  resolved := Array.replicate 29 none
  statics := none }

def pool2 : Array CpInfo := pool [(2, .class_ 4), (1, u "java/lang/Object"), (0, u "<init>"), (0, u "()V"), (40, .methodref 48 49), (0, .class_ 50), (0, .nameAndType 51 52), (0, u "java/lang/Math"), (0, u "min"), (0, u "(II)I"), (0, .class_ 54), (0, u "com/example/reckonmill/reckonmill/data/Utf8Bytes"), (5, u "mistakenForUtf16Or32"), (0, u "([BII)Z")] 2

def k2m0 : Method := { name := "<init>", desc := "()V", sig := { parameters := [], returnType := none }, accessFlags := 2, code := none }
def k2c1 : Code := { maxStack := 3, maxLocals := 5, code := prog_9_method_3_code, exceptionTable := #[], attributes := #[] }
def k2m1 : Method := { name := "mistakenForUtf16Or32", desc := "([BII)Z", sig := { parameters := [(.array .byte), .int, .int], returnType := some .boolean }, accessFlags := 9, code := some k2c1 }
/-- com/example/reckonmill/reckonmill/data/Utf8Bytes -/
def k2 : Class := { plain "com/example/reckonmill/reckonmill/data/Utf8Bytes" (some 0) with
  accessFlags := 49
  interfaces := #[]
  cf := some (fileOf pool2 53 #[] #[{ accessFlags := 2, nameIndex := 5, descriptorIndex := 6, attributes := #[] }, { accessFlags := 9, nameIndex := 60, descriptorIndex := 61, attributes := #[] }] 49 2 #[] #[])
  fields := #[]
  methods := #[k2m0, k2m1]
  instanceTypes := #[]
  staticTypes := #[]
  resolved := Array.replicate 64 none
  statics := none }

def pool3 : Array CpInfo := pool [(1, .class_ 2), (0, u "java/lang/Math"), (1, .class_ 6), (1, u "java/lang/Object"), (0, u "<init>"), (0, u "()V"), (89, .class_ 100), (1, u "java/lang/Math$RandomNumberGeneratorHolder"), (71, u "negativeZeroFloatBits"), (0, u "J"), (2, u "negativeZeroDoubleBits"), (24, u "min"), (43, u "$assertionsDisabled"), (0, u "Z"), (88, u "(II)I"), (2, u "twoToTheDoubleScaleDown"), (0, u "D"), (4, u "twoToTheDoubleScaleUp"), (9, u "E"), (3, u "PI"), (2, u "TAU"), (2, u "DEGREES_TO_RADIANS"), (0, u "RADIANS_TO_DEGREES")] 94

def k3m0 : Method := { name := "<init>", desc := "()V", sig := { parameters := [], returnType := none }, accessFlags := 2, code := none }
def k3c1 : Code := { maxStack := 2, maxLocals := 2, code := jdk_29_method_69_code, exceptionTable := #[], attributes := #[] }
def k3m1 : Method := { name := "min", desc := "(II)I", sig := { parameters := [.int, .int], returnType := some .int }, accessFlags := 9, code := some k3c1 }
/-- java/lang/Math -/
def k3 : Class := { plain "java/lang/Math" (some 0) with
  accessFlags := 49
  interfaces := #[]
  cf := some (fileOf pool3 1 #[.nestMembers #[98]] #[{ accessFlags := 2, nameIndex := 7, descriptorIndex := 8, attributes := #[] }, { accessFlags := 9, nameIndex := 201, descriptorIndex := 335, attributes := #[] }] 49 4 #[] #[{ accessFlags := 25, nameIndex := 354, descriptorIndex := 339, attributes := #[] }, { accessFlags := 25, nameIndex := 358, descriptorIndex := 339, attributes := #[] }, { accessFlags := 25, nameIndex := 361, descriptorIndex := 339, attributes := #[] }, { accessFlags := 26, nameIndex := 364, descriptorIndex := 339, attributes := #[] }, { accessFlags := 26, nameIndex := 365, descriptorIndex := 339, attributes := #[] }, { accessFlags := 26, nameIndex := 172, descriptorIndex := 173, attributes := #[] }, { accessFlags := 26, nameIndex := 176, descriptorIndex := 173, attributes := #[] }, { accessFlags := 8, nameIndex := 344, descriptorIndex := 339, attributes := #[] }, { accessFlags := 8, nameIndex := 338, descriptorIndex := 339, attributes := #[] }, { accessFlags := 4120, nameIndex := 245, descriptorIndex := 246, attributes := #[] }])
  fields := #[{ name := "E", type := .double, accessFlags := 25, slot := 0, constantValue := 0 }, { name := "PI", type := .double, accessFlags := 25, slot := 1, constantValue := 0 }, { name := "TAU", type := .double, accessFlags := 25, slot := 2, constantValue := 0 }, { name := "DEGREES_TO_RADIANS", type := .double, accessFlags := 26, slot := 3, constantValue := 0 }, { name := "RADIANS_TO_DEGREES", type := .double, accessFlags := 26, slot := 4, constantValue := 0 }, { name := "negativeZeroFloatBits", type := .long, accessFlags := 26, slot := 5, constantValue := 0 }, { name := "negativeZeroDoubleBits", type := .long, accessFlags := 26, slot := 6, constantValue := 0 }, { name := "twoToTheDoubleScaleUp", type := .double, accessFlags := 8, slot := 7, constantValue := 0 }, { name := "twoToTheDoubleScaleDown", type := .double, accessFlags := 8, slot := 8, constantValue := 0 }, { name := "$assertionsDisabled", type := .boolean, accessFlags := 4120, slot := 9, constantValue := 0 }]
  methods := #[k3m0, k3m1]
  instanceTypes := #[]
  staticTypes := #[.double, .double, .double, .double, .double, .long, .long, .double, .double, .boolean]
  resolved := Array.replicate 460 none
  statics := none }

def pool4 : Array CpInfo := pool [(1, u "java/lang/Cloneable"), (0, .class_ 1), (0, u "java/lang/Object"), (0, .class_ 3)] 3

/-- java/lang/Cloneable -/
def k4 : Class := { plain "java/lang/Cloneable" (some 0) with
  accessFlags := 1537
  interfaces := #[]
  cf := some (fileOf pool4 2 #[] #[] 1537 4 #[] #[])
  fields := #[]
  methods := #[]
  instanceTypes := #[]
  staticTypes := #[]
  resolved := Array.replicate 8 none
  statics := none }

def pool5 : Array CpInfo := pool [(1, u "java/io/Serializable"), (0, .class_ 1), (0, u "java/lang/Object"), (0, .class_ 3)] 3

/-- java/io/Serializable -/
def k5 : Class := { plain "java/io/Serializable" (some 0) with
  accessFlags := 1537
  interfaces := #[]
  cf := some (fileOf pool5 2 #[] #[] 1537 4 #[] #[])
  fields := #[]
  methods := #[]
  instanceTypes := #[]
  staticTypes := #[]
  resolved := Array.replicate 8 none
  statics := none }

/-- the primitive byte -/
def k6 : Class := { plain "byte" none with kind := .primitive 'B', accessFlags := 0x411 }
/-- [B -/
def k7 : Class := { plain "[B" (some 0) with kind := .array 6 .byte, interfaces := #[4, 5], accessFlags := 1041 }

/-- the primitive int -/
def k8 : Class := { plain "int" none with kind := .primitive 'I', accessFlags := 0x411 }
/-- [I -/
def k9 : Class := { plain "[I" (some 0) with kind := .array 8 .int, interfaces := #[4, 5], accessFlags := 1041 }

def heap : Heap := #[]
def classes : Array Class := #[k0, k1, k2, k3, k4, k5, k6, k7, k8, k9]
def interned : List (Array UInt16 × Addr) := []
def slotsUsed : Nat := 0
def theMethod : MethodId := ⟨1, 2⟩
def args0 : Array Value := #[.long 5, .int 1, .int 1, .int 3]
def aboutOver (below : List Frame) : State where
  vm := { classes := classes, interned := interned.toArray }
  heap := heap
  slotsUsed := slotsUsed
  threads := #[{ frames := .invoking theMethod args0 :: below }]
def below0 : List Frame := [.native { method := ⟨0, 0⟩, args := #[] }]
def about1 : State := aboutOver below0
def p0 : Program := .bare "" "" ""
def e0 : Env := launch0.env 0 0 0
theorem w_frames : about1.frames = Frame.invoking theMethod args0 :: below0 := rfl
set_option maxRecDepth 65536 in
theorem w_args : argsFit about1.vm theMethod args0 = true := by decide +kernel
set_option maxRecDepth 65536 in
theorem w_heap : heapFits about1 = true := by decide +kernel
set_option maxRecDepth 65536 in
theorem w_runnable : about1.curStatus? = some .runnable := by decide +kernel
set_option maxRecDepth 65536 in
theorem w_alone : about1.alone = true := by decide +kernel
set_option maxRecDepth 65536 in
theorem w_named : about1.methodNamed? x = some theMethod := by decide +kernel
set_option maxRecDepth 65536 in
theorem w_hears : about1.hears theMethod below0 = true := by decide +kernel
set_option maxRecDepth 65536 in
theorem w_ripe : about1.ripe theMethod args0 below0 = true := by decide +kernel
theorem w_running : about1.status = .running := rfl
set_option maxRecDepth 65536 in
theorem w_room : about1.hasRoom e0.platform room_1 = true :=
  launch0.hasRoom_least _ room_1 (by decide +kernel) (by decide +kernel) (by decide +kernel) (by decide +kernel) (by decide +kernel) (by decide +kernel)
theorem allAtoms_all (ts : List Jvm.Cond) (a : Array Jvm.Value) (st : Jvm.State) : (allAtoms ts).before a st = ts.all (fun c => c.before a st) := by
  induction ts with
  | nil => rfl
  | cons c t ih =>
    show (Jvm.Cond.and c (allAtoms t)).before a st = _
    rw [Jvm.Cond.before_and, ih, List.all_cons]
def words1 : List Jvm.Cond := Jvm.Cond.code x code maxLocals ret :: tables_1
/-- a 'code' word, met by the world's own term for the bytes: nothing is compared byte by byte -/
theorem code_word {y : MethodName} {bytes : ByteArray} {mx : Nat} {rt : Option FieldType} {a : Array Value} {s : State} {m : MethodId} {meth : Method} {c : Code} (h1 : s.methodNamed? y = some m) (h2 : s.vm.method? m = some meth) (h3 : meth.code = some c) (h4 : c.code = bytes)
    (h5 : (c.maxLocals == mx && c.exceptionTable.isEmpty && decide (c.maxStack ≤ mostOperands) && decide (meth.sig.returnType = rt) && !meth.locks && decide (parseMethodDescriptor y.desc = some meth.sig)) = true) : (Jvm.Cond.code y bytes mx rt).before a s = true := by
  simp only [Bool.and_eq_true, beq_iff_eq, Bool.not_eq_true', decide_eq_true_eq] at h5
  obtain ⟨⟨⟨⟨⟨g1, g2⟩, g3⟩, g4⟩, g5⟩, g6⟩ := h5
  simp [Cond.before, Cond.holds, Cond.value, h1, h2, h3, h4, g1, g2, g3, g4, g5, g6]
def isCode : Jvm.Cond → Bool
  | .code _ _ _ _ => true
  | _ => false
theorem all_split {L : List Jvm.Cond} {P : Jvm.Cond → Bool} (h1 : L.all (fun c => isCode c || P c) = true) (h2 : ∀ c ∈ L.filter isCode, P c = true) : L.all P = true := by
  refine List.all_eq_true.mpr fun c hc => ?_
  have h := List.all_eq_true.mp h1 c hc
  rcases Bool.eq_false_or_eq_true (isCode c) with hi | hi
  · exact h2 c (List.mem_filter.mpr ⟨hc, hi⟩)
  · simpa [hi] using h
set_option maxRecDepth 65536 in
theorem w_c0 : (Jvm.Cond.code x code maxLocals ret).before args0 about1 = true := code_word (m := ⟨1, 2⟩) (meth := k1m2) (c := k1c2) (by decide +kernel) rfl rfl rfl (by decide +kernel)
set_option maxRecDepth 65536 in
theorem w_c1 : (Jvm.Cond.code ({ cls := "com/example/reckonmill/reckonmill/data/Utf8BytesMistakenForUtf16Or32PinLaw", name := "cell", desc := "(JII)B" } : Jvm.MethodName) method_2_code (4 : Nat) (Option.some Jvm.ClassFile.FieldType.byte)).before args0 about1 = true := code_word (m := ⟨1, 1⟩) (meth := k1m1) (c := k1c1) (by decide +kernel) rfl rfl rfl (by decide +kernel)
set_option maxRecDepth 65536 in
theorem w_c2 : (Jvm.Cond.code ({ cls := "com/example/reckonmill/reckonmill/data/Utf8Bytes", name := "mistakenForUtf16Or32", desc := "([BII)Z" } : Jvm.MethodName) prog_9_method_3_code (5 : Nat) (Option.some Jvm.ClassFile.FieldType.boolean)).before args0 about1 = true := code_word (m := ⟨2, 1⟩) (meth := k2m1) (c := k2c1) (by decide +kernel) rfl rfl rfl (by decide +kernel)
set_option maxRecDepth 65536 in
theorem w_c3 : (Jvm.Cond.code ({ cls := "java/lang/Math", name := "min", desc := "(II)I" } : Jvm.MethodName) jdk_29_method_69_code (2 : Nat) (Option.some Jvm.ClassFile.FieldType.int)).before args0 about1 = true := code_word (m := ⟨3, 1⟩) (meth := k3m1) (c := k3c1) (by decide +kernel) rfl rfl rfl (by decide +kernel)
def codes1 : List Jvm.Cond := [Jvm.Cond.code x code maxLocals ret, Jvm.Cond.code ({ cls := "com/example/reckonmill/reckonmill/data/Utf8BytesMistakenForUtf16Or32PinLaw", name := "cell", desc := "(JII)B" } : Jvm.MethodName) method_2_code (4 : Nat) (Option.some Jvm.ClassFile.FieldType.byte), Jvm.Cond.code ({ cls := "com/example/reckonmill/reckonmill/data/Utf8Bytes", name := "mistakenForUtf16Or32", desc := "([BII)Z" } : Jvm.MethodName) prog_9_method_3_code (5 : Nat) (Option.some Jvm.ClassFile.FieldType.boolean), Jvm.Cond.code ({ cls := "java/lang/Math", name := "min", desc := "(II)I" } : Jvm.MethodName) jdk_29_method_69_code (2 : Nat) (Option.some Jvm.ClassFile.FieldType.int)]
set_option maxRecDepth 65536 in
theorem codes_eq : words1.filter isCode = codes1 := rfl
theorem w_codes : ∀ c ∈ words1.filter isCode, c.before args0 about1 = true := by
  rw [codes_eq]
  intro c hc
  simp only [codes1, List.mem_cons, List.not_mem_nil, or_false] at hc
  rcases hc with rfl | rfl | rfl | rfl
  · exact w_c0
  · exact w_c1
  · exact w_c2
  · exact w_c3
set_option maxRecDepth 65536 in
theorem w_t1 : words1.all (fun c => isCode c || c.before args0 about1) = true := by decide +kernel
theorem w_tables : (allAtoms (Jvm.Cond.code x code maxLocals ret :: tables_1)).before args0 about1 = true := by
  rw [allAtoms_all]
  show words1.all (fun c => c.before args0 about1) = true
  refine all_split ?_ w_codes
  rw [w_t1]
set_option maxRecDepth 65536 in
theorem w_case : (Jvm.Cond.and given_1 narrow_1).before args0 about1 = true := by decide +kernel
theorem w_applies : (headSpec (Jvm.Cond.code x code maxLocals ret :: tables_1) room_1).applies x e0.platform about1 = true :=
  (Spec.applies_iff w_frames).mpr ⟨w_running, w_runnable, w_alone, w_named, w_hears, w_ripe, w_room, w_tables⟩
theorem atStart : AtStart classFile x code maxLocals ret World_1 tables_1 room_1 Calls_1 rest_1 Pre_1 launch0 p0 e0 about1 theMethod args0 below0 :=
  ⟨lists_1, trivial, launch0.admits_env _ _ _, launch0.least_env, fairChoices_fair.cas, fairChoices_fair.clock, w_frames, w_args, w_heap, w_applies, trivial, trivial, w_case⟩
end start1
theorem witness_1 : WitnessClaimed_1 := ⟨start1.p0, start1.e0, start1.about1, start1.theMethod, start1.args0, start1.below0, start1.atStart⟩
end Jvm.Pilot.@@N@@
