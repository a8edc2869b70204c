import JvmDerived
import JvmDerived.Pilot.@@N@@Statement
import JvmDerived.Pilot.@@N@@Code
set_option linter.unusedVariables false
set_option linter.unusedSimpArgs false
namespace Jvm.RoadKit
open Sem ClassFile Op Lib Jvm.Stand Jvm.Free Jvm.LawKit
section New
variable {p : Program} {l : Launch} {e : Env} {R : Room} {s : State} {m : MethodId} {args : Array Value} {below : List Frame} {meth : Method} {c : Code} {T : State} {locs : List Loc} {cells slots : Nat}
theorem retI (X : Stand p l e R s m args below meth c T locs cells slots) (hx : p.tables.exec = Jvm.exec) {pc : Nat} {Ls : Array Slot} {z : Int32} {rest : List Value} (hret : meth.sig.returnType = some .int) (hd : decode c.code pc = .ok (.ireturn, 1)) {fs : List Frame}
    (hl : ∀ (f : JFrame) (acts : List Action), f.method = m → f.locked = none → f.entered = [] → (doReturn e (T.setTop f) acts (some (.int z))).1 = T.setFrames fs) : Steps p.tables e below (T.setTop (mkF m pc Ls (.int z :: rest))) (T.setFrames fs) := by
  have hm' : T.vm.method? m = some meth := X.method'
  have hn : narrow .int (.int z) = .int z := rfl
  show Steps p.tables e below (T.setTop { method := m, pc := pc, locals := Ls, stack := _ :: rest, locked := none }) _
  jvm_step X.here [X.here.top, hx, hd, hm', hret, hn]
  first | (intro acts; rw [hl _ acts rfl rfl rfl]) | rw [hl _ _ rfl rfl rfl]
  exact Steps.refl _
end New
end Jvm.RoadKit
namespace Jvm.Pilot.@@N@@
open Jvm Jvm.ClassFile Sem Op Lib Jvm.Free Jvm.Stand Jvm.LawKit Jvm.RoadKit Bundle Jvm.Pilot.@@N@@.Jvm.D
section Own
variable {p : Program} {l : Launch} {e : Env} {R : Room} {s : State} {m : MethodId} {args : Array Value} {below : List Frame} {meth : Method} {c : Code} {T T' : State} {locs : List Loc} {cells slots cc nn : Nat} {f f' : JFrame} {Q : Option Value → Heap → List Loc → Prop} {Z : State} {h h' : Heap} {ws : List Addr}
/-- from this state the body comes to its end, and what it leaves is as Q says -/
def own_Ends (p : Program) (e : Env) (below : List Frame) (s : State) (Q : Option Value → Heap → List Loc → Prop) (cc nn : Nat) (T : State) (f : JFrame) : Prop :=
  ∃ s₂ o, Steps p.tables e below (T.setTop f) s₂ ∧ s₂.status = .running ∧ Ended s₂ below o ∧ ∃ v L, o = .returned v ∧ Q v s₂.heap L ∧ FrameEnd s o s₂ L cc nn
theorem own_go (k : ∀ t, Steps p.tables e below (T'.setTop f') t → Steps p.tables e below (T.setTop f) t) (h : own_Ends p e below s Q cc nn T' f') : own_Ends p e below s Q cc nn T f := by
  obtain ⟨s₂, o, h1, h2⟩ := h
  exact ⟨s₂, o, k _ h1, h2⟩
theorem own_ret (X : Stand p l e R s m args below meth c T locs cells slots) {v : Option Value} (hv : meth.sig.returnType = none → v = none) (hlk : meth.locks = false)
    (st : ∀ fs, (∀ (f : JFrame) (acts : List Action), f.method = m → f.locked = none → f.entered = [] → (doReturn e (T.setTop f) acts v).1 = T.setFrames fs) → Steps p.tables e below (T.setTop f) (T.setFrames fs)) (hQ : Q v T.heap locs) (h1 : cells ≤ cc) (h2 : slots ≤ nn) :
    own_Ends p e below s Q cc nn T f := by
  obtain ⟨fs, hr, hrun, hended, hW, hsame⟩ := X.leave (v := v) hv hlk
  exact ⟨_, _, st fs hr, hrun, hended, _, _, rfl, hQ, ⟨_, rfl⟩, hW, hsame.mono h1 h2⟩
theorem own_retL (X : Stand p l e R s m args below meth c T locs cells slots) (hx : p.tables.exec = Jvm.exec) {pc : Nat} {Ls : Array Slot} {z : Int64} {rest : List Value} (hret : meth.sig.returnType = some .long) (hd : decode c.code pc = .ok (.lreturn, 1)) {fs : List Frame}
    (hl : ∀ (f : JFrame) (acts : List Action), f.method = m → f.locked = none → f.entered = [] → (doReturn e (T.setTop f) acts (some (.long z))).1 = T.setFrames fs) : Steps p.tables e below (T.setTop (mkF m pc Ls (.long z :: rest))) (T.setFrames fs) :=
  retOut X hx hret rfl (Or.inr (Or.inl ⟨rfl, rfl, _, rfl⟩)) hd hl
theorem own_retD (X : Stand p l e R s m args below meth c T locs cells slots) (hx : p.tables.exec = Jvm.exec) {pc : Nat} {Ls : Array Slot} {z : UInt64} {rest : List Value} (hret : meth.sig.returnType = some .double) (hd : decode c.code pc = .ok (.dreturn, 1)) {fs : List Frame}
    (hl : ∀ (f : JFrame) (acts : List Action), f.method = m → f.locked = none → f.entered = [] → (doReturn e (T.setTop f) acts (some (.double z))).1 = T.setFrames fs) : Steps p.tables e below (T.setTop (mkF m pc Ls (.double z :: rest))) (T.setFrames fs) :=
  retOut X hx hret rfl (Or.inr (Or.inr (Or.inl ⟨rfl, rfl, _, rfl⟩))) hd hl
theorem own_retA (X : Stand p l e R s m args below meth c T locs cells slots) (hx : p.tables.exec = Jvm.exec) {pc : Nat} {Ls : Array Slot} {w : Value} {t : FieldType} {rest : List Value} (hret : meth.sig.returnType = some t) (ht : t.isReference = true) (hw : w.isRef = true) (hd : decode c.code pc = .ok (.areturn, 1)) {fs : List Frame}
    (hl : ∀ (f : JFrame) (acts : List Action), f.method = m → f.locked = none → f.entered = [] → (doReturn e (T.setTop f) acts (some w)).1 = T.setFrames fs) : Steps p.tables e below (T.setTop (mkF m pc Ls (w :: rest))) (T.setFrames fs) :=
  retOut X hx hret (by cases t <;> first | rfl | (cases ht; done)) (Or.inr (Or.inr (Or.inr (Or.inr ⟨rfl, ht, hw⟩)))) hd hl
theorem own_lc_lt {a b : Int64} : lcmpW a b < 0 ↔ a < b := by
  simp only [lcmpW, gt_iff_lt]
  by_cases h1 : b < a
  · rw [if_pos h1]; exact ⟨fun q => absurd q (by decide), fun q => absurd q (by rw [Int64.lt_iff_toInt_lt] at *; omega)⟩
  · rw [if_neg h1]
    by_cases h2 : a = b
    · rw [if_pos h2]; exact ⟨fun q => absurd q (by decide), fun q => absurd q (by rw [h2, Int64.lt_iff_toInt_lt]; omega)⟩
    · rw [if_neg h2]; exact ⟨fun _ => by rw [Int64.lt_iff_toInt_lt] at *; rw [← Int64.toInt_inj] at h2; omega, fun _ => by decide⟩
theorem own_lc_eq {a b : Int64} : lcmpW a b = 0 ↔ a = b := by
  simp only [lcmpW, gt_iff_lt]
  by_cases h1 : b < a
  · rw [if_pos h1]; exact ⟨fun q => absurd q (by decide), fun q => absurd h1 (by rw [q, Int64.lt_iff_toInt_lt]; omega)⟩
  · rw [if_neg h1]
    by_cases h2 : a = b
    · rw [if_pos h2]; exact ⟨fun _ => h2, fun _ => rfl⟩
    · rw [if_neg h2]; exact ⟨fun q => absurd q (by decide), fun q => absurd q h2⟩
theorem own_lc_gt {a b : Int64} : 0 < lcmpW a b ↔ b < a := by
  simp only [lcmpW, gt_iff_lt]
  by_cases h1 : b < a
  · rw [if_pos h1]; exact ⟨fun _ => h1, fun _ => by decide⟩
  · rw [if_neg h1]
    by_cases h2 : a = b
    · rw [if_pos h2]; exact ⟨fun q => absurd q (by decide), fun q => absurd q h1⟩
    · rw [if_neg h2]; exact ⟨fun q => absurd q (by decide), fun q => absurd q h1⟩
section Arr
variable {target : State} {g : JFrame} {a : Addr} {kc : ClassId} {ty : FieldType} {z : Int32} {vs : List Value} {dv : Value}
theorem own_alen (X : Stand p l e R s m args below meth c T locs cells slots) (hx : p.tables.exec = Jvm.exec) (hZ : Z.Warmed39 s.vm) (eT : T.heap = h) (V : Arv Z h a kc ty z vs dv) (hg : g.method = m) {rest : List Value} (hs : g.stack = .ref a :: rest) (hd : decode c.code g.pc = .ok (.arraylength, 1))
    (hr : Steps p.tables e below (T.setTop { g with pc := g.pc + 1, stack := .int z :: rest }) target) : Steps p.tables e below (T.setTop g) target := by
  obtain ⟨cl, Ar, -, Sz, Ng, -, -⟩ := V
  exact X.arraylength hx (by rw [eT]; exact Ar.1) (State.isArrayOf_alike hZ.alike Ar.2.1) hg hs hd _ (by rw [len_of Sz Ng]; exact hr)
theorem own_ldI (X : Stand p l e R s m args below meth c T locs cells slots) (hx : p.tables.exec = Jvm.exec) (hZ : Z.Warmed39 s.vm) (eT : T.heap = h) (V : Arv Z h a kc .int z vs dv) {j : Int32} {x : Int32} (hin : ¬ j < 0 ∧ j < z) (hv : vs.getD j.toNatClampNeg dv = .int x) (hg : g.method = m) {rest : List Value} (hs : g.stack = .int j :: .ref a :: rest) (hd : decode c.code g.pc = .ok (.iaload, 1))
    (hr : Steps p.tables e below (T.setTop { g with pc := g.pc + 1, stack := .int x :: rest }) target) : Steps p.tables e below (T.setTop g) target := by
  obtain ⟨cl, Ar, -, Sz, Ng, Hs, Ft⟩ := V
  have hq := inb_of (j := j) Sz hin
  exact X.iaload hx (j := j) (v := .int x) (by rw [eT]; exact Ar.1) (State.isArrayOf_alike hZ.alike Ar.2.1) Ar.2.2 hq (Hs.at hq hv) hg hs hd _ hr
theorem own_ldB (X : Stand p l e R s m args below meth c T locs cells slots) (hx : p.tables.exec = Jvm.exec) (hZ : Z.Warmed39 s.vm) (eT : T.heap = h) (V : Arv Z h a kc .byte z vs dv) {j : Int32} {x : Int32} (hin : ¬ j < 0 ∧ j < z) (hv : vs.getD j.toNatClampNeg dv = .int x) (hg : g.method = m) {rest : List Value} (hs : g.stack = .int j :: .ref a :: rest) (hd : decode c.code g.pc = .ok (.baload, 1))
    (hr : Steps p.tables e below (T.setTop { g with pc := g.pc + 1, stack := .int x :: rest }) target) : Steps p.tables e below (T.setTop g) target := by
  obtain ⟨cl, Ar, -, Sz, Ng, Hs, Ft⟩ := V
  have hq := inb_of (j := j) Sz hin
  exact X.baloadBytes hx (j := j) (v := .int x) (by rw [eT]; exact Ar.1) (State.isArrayOf_alike hZ.alike Ar.2.1) Ar.2.2 hq (Hs.at hq hv) hg hs hd _ hr
theorem own_ldC (X : Stand p l e R s m args below meth c T locs cells slots) (hx : p.tables.exec = Jvm.exec) (hZ : Z.Warmed39 s.vm) (eT : T.heap = h) (V : Arv Z h a kc .char z vs dv) {j : Int32} {x : Int32} (hin : ¬ j < 0 ∧ j < z) (hv : vs.getD j.toNatClampNeg dv = .int x) (hg : g.method = m) {rest : List Value} (hs : g.stack = .int j :: .ref a :: rest) (hd : decode c.code g.pc = .ok (.caload, 1))
    (hr : Steps p.tables e below (T.setTop { g with pc := g.pc + 1, stack := .int x :: rest }) target) : Steps p.tables e below (T.setTop g) target := by
  obtain ⟨cl, Ar, -, Sz, Ng, Hs, Ft⟩ := V
  have hq := inb_of (j := j) Sz hin
  exact X.caload hx (j := j) (v := .int x) (by rw [eT]; exact Ar.1) (State.isArrayOf_alike hZ.alike Ar.2.1) Ar.2.2 hq (Hs.at hq hv) hg hs hd _ hr
theorem own_ldJ (X : Stand p l e R s m args below meth c T locs cells slots) (hx : p.tables.exec = Jvm.exec) (hZ : Z.Warmed39 s.vm) (eT : T.heap = h) (V : Arv Z h a kc .long z vs dv) {j : Int32} {x : Int64} (hin : ¬ j < 0 ∧ j < z) (hv : vs.getD j.toNatClampNeg dv = .long x) (hg : g.method = m) {rest : List Value} (hs : g.stack = .int j :: .ref a :: rest) (hd : decode c.code g.pc = .ok (.laload, 1))
    (hr : Steps p.tables e below (T.setTop { g with pc := g.pc + 1, stack := .long x :: rest }) target) : Steps p.tables e below (T.setTop g) target := by
  obtain ⟨cl, Ar, -, Sz, Ng, Hs, Ft⟩ := V
  have hq := inb_of (j := j) Sz hin
  exact X.laload hx (j := j) (v := .long x) (by rw [eT]; exact Ar.1) (State.isArrayOf_alike hZ.alike Ar.2.1) Ar.2.2 hq (Hs.at hq hv) hg hs hd _ hr
theorem own_ldR (X : Stand p l e R s m args below meth c T locs cells slots) (hx : p.tables.exec = Jvm.exec) (hZ : Z.Warmed39 s.vm) (eT : T.heap = h) (V : Arv Z h a kc ty z vs dv) {j : Int32} {x : Value} (hin : ¬ j < 0 ∧ j < z) (hv : vs.getD j.toNatClampNeg dv = x) (hty : ty.isReference = true) (hg : g.method = m) {rest : List Value} (hs : g.stack = .int j :: .ref a :: rest) (hd : decode c.code g.pc = .ok (.aaload, 1))
    (hr : Steps p.tables e below (T.setTop { g with pc := g.pc + 1, stack := x :: rest }) target) : Steps p.tables e below (T.setTop g) target := by
  obtain ⟨cl, Ar, -, Sz, Ng, Hs, Ft⟩ := V
  have hq := inb_of (j := j) Sz hin
  exact X.aaload hx (j := j) (v := x) (by rw [eT]; exact Ar.1) (State.isArrayOf_alike hZ.alike Ar.2.1) hty Ar.2.2 hq (Hs.at hq hv) hg hs hd _ hr
theorem own_stI (X : Stand p l e R s m args below meth c T locs cells slots) (hx : p.tables.exec = Jvm.exec) (hZ : Z.Warmed39 s.vm) (eT : T.heap = h) (V : Arv Z h a kc .int z vs dv) {j : Int32} {x : Int32} (hin : ¬ j < 0 ∧ j < z) (i : Nat) (hj : j.toNatClampNeg = i) (hi : i < vs.length) (hg : g.method = m) {rest : List Value} (hs : g.stack = .int x :: .int j :: .ref a :: rest) (hd : decode c.code g.pc = .ok (.iastore, 1)) :
    ∃ T' h', Stand p l e R s m args below meth c T' (locs ++ [⟨a, j.toNatClampNeg⟩]) cells slots ∧ T'.heap = h' ∧ Wr h h' a j.toNatClampNeg (.int x) ∧ Arv Z h' a kc .int z (vs.set i (.int x)) dv ∧ ∀ target, Steps p.tables e below (T'.setTop { g with pc := g.pc + 1, stack := rest }) target → Steps p.tables e below (T.setTop g) target := by
  obtain ⟨cl, Ar, q, Sz, Ng, Hs, Ft⟩ := V
  obtain ⟨T', h', X', e', W', st⟩ := stI X hx hZ eT Ar (j := j) (inb_of Sz hin) hg hs hd
  exact ⟨T', h', X', e', W', Arv.set Ar q Sz Ng Hs Ft rfl W' i hj hi, st⟩
theorem own_stB (X : Stand p l e R s m args below meth c T locs cells slots) (hx : p.tables.exec = Jvm.exec) (hZ : Z.Warmed39 s.vm) (eT : T.heap = h) (V : Arv Z h a kc .byte z vs dv) {j : Int32} {x : Int32} (hin : ¬ j < 0 ∧ j < z) (i : Nat) (hj : j.toNatClampNeg = i) (hi : i < vs.length) (hg : g.method = m) {rest : List Value} (hs : g.stack = .int x :: .int j :: .ref a :: rest) (hd : decode c.code g.pc = .ok (.bastore, 1)) :
    ∃ T' h', Stand p l e R s m args below meth c T' (locs ++ [⟨a, j.toNatClampNeg⟩]) cells slots ∧ T'.heap = h' ∧ Wr h h' a j.toNatClampNeg (.int (nar .byte x)) ∧ Arv Z h' a kc .byte z (vs.set i (.int (nar .byte x))) dv ∧ ∀ target, Steps p.tables e below (T'.setTop { g with pc := g.pc + 1, stack := rest }) target → Steps p.tables e below (T.setTop g) target := by
  obtain ⟨cl, Ar, q, Sz, Ng, Hs, Ft⟩ := V
  obtain ⟨T', h', X', e', W', st⟩ := stB X hx hZ eT Ar (j := j) (inb_of Sz hin) hg hs hd
  exact ⟨T', h', X', e', W', Arv.set Ar q Sz Ng Hs Ft (fits_nar_byte _) W' i hj hi, st⟩
theorem own_stC (X : Stand p l e R s m args below meth c T locs cells slots) (hx : p.tables.exec = Jvm.exec) (hZ : Z.Warmed39 s.vm) (eT : T.heap = h) (V : Arv Z h a kc .char z vs dv) {j : Int32} {x : Int32} (hin : ¬ j < 0 ∧ j < z) (i : Nat) (hj : j.toNatClampNeg = i) (hi : i < vs.length) (hg : g.method = m) {rest : List Value} (hs : g.stack = .int x :: .int j :: .ref a :: rest) (hd : decode c.code g.pc = .ok (.castore, 1)) :
    ∃ T' h', Stand p l e R s m args below meth c T' (locs ++ [⟨a, j.toNatClampNeg⟩]) cells slots ∧ T'.heap = h' ∧ Wr h h' a j.toNatClampNeg (.int (nar .char x)) ∧ Arv Z h' a kc .char z (vs.set i (.int (nar .char x))) dv ∧ ∀ target, Steps p.tables e below (T'.setTop { g with pc := g.pc + 1, stack := rest }) target → Steps p.tables e below (T.setTop g) target := by
  obtain ⟨cl, Ar, q, Sz, Ng, Hs, Ft⟩ := V
  obtain ⟨T', h', X', e', W', st⟩ := stC X hx hZ eT Ar (j := j) (inb_of Sz hin) hg hs hd
  exact ⟨T', h', X', e', W', Arv.set Ar q Sz Ng Hs Ft (fits_nar_char _) W' i hj hi, st⟩
theorem own_stJ (X : Stand p l e R s m args below meth c T locs cells slots) (hx : p.tables.exec = Jvm.exec) (hZ : Z.Warmed39 s.vm) (eT : T.heap = h) (V : Arv Z h a kc .long z vs dv) {j : Int32} {x : Int64} (hin : ¬ j < 0 ∧ j < z) (i : Nat) (hj : j.toNatClampNeg = i) (hi : i < vs.length) (hg : g.method = m) {rest : List Value} (hs : g.stack = .long x :: .int j :: .ref a :: rest) (hd : decode c.code g.pc = .ok (.lastore, 1)) :
    ∃ T' h', Stand p l e R s m args below meth c T' (locs ++ [⟨a, j.toNatClampNeg⟩]) cells slots ∧ T'.heap = h' ∧ Wr h h' a j.toNatClampNeg (.long x) ∧ Arv Z h' a kc .long z (vs.set i (.long x)) dv ∧ ∀ target, Steps p.tables e below (T'.setTop { g with pc := g.pc + 1, stack := rest }) target → Steps p.tables e below (T.setTop g) target := by
  obtain ⟨cl, Ar, q, Sz, Ng, Hs, Ft⟩ := V
  obtain ⟨T', h', X', e', W', st⟩ := stJ X hx hZ eT Ar (j := j) (inb_of Sz hin) hg hs hd
  exact ⟨T', h', X', e', W', Arv.set Ar q Sz Ng Hs Ft rfl W' i hj hi, st⟩
theorem own_stZ (X : Stand p l e R s m args below meth c T locs cells slots) (hx : p.tables.exec = Jvm.exec) (hZ : Z.Warmed39 s.vm) (eT : T.heap = h) (V : Arv Z h a kc .boolean z vs dv) {j : Int32} {x : Int32} (hin : ¬ j < 0 ∧ j < z) (i : Nat) (hj : j.toNatClampNeg = i) (hi : i < vs.length) (hg : g.method = m) {rest : List Value} (hs : g.stack = .int x :: .int j :: .ref a :: rest) (hd : decode c.code g.pc = .ok (.bastore, 1)) :
    ∃ T' h', Stand p l e R s m args below meth c T' (locs ++ [⟨a, j.toNatClampNeg⟩]) cells slots ∧ T'.heap = h' ∧ Wr h h' a j.toNatClampNeg (.int (nar .boolean x)) ∧ Arv Z h' a kc .boolean z (vs.set i (.int (nar .boolean x))) dv ∧ ∀ target, Steps p.tables e below (T'.setTop { g with pc := g.pc + 1, stack := rest }) target → Steps p.tables e below (T.setTop g) target := by
  obtain ⟨cl, Ar, q, Sz, Ng, Hs, Ft⟩ := V
  obtain ⟨T', h', X', e', W', st⟩ := stZ X hx hZ eT Ar (j := j) (inb_of Sz hin) hg hs hd
  exact ⟨T', h', X', e', W', Arv.set Ar q Sz Ng Hs Ft (fits_nar_bool _) W' i hj hi, st⟩
theorem own_stR (X : Stand p l e R s m args below meth c T locs cells slots) (hx : p.tables.exec = Jvm.exec) (hZ : Z.Warmed39 s.vm) (eT : T.heap = h) (V : Arv Z h a kc ty z vs dv) {j : Int32} {x : Value} (hin : ¬ j < 0 ∧ j < z) (hty : ty.isReference = true) (hf : fits ty x = true) (F : ∀ cl, Arr Z h a cl ty → cl.cls = kc → Sto Z h a x) (i : Nat) (hj : j.toNatClampNeg = i) (hi : i < vs.length) (hg : g.method = m) {rest : List Value} (hs : g.stack = x :: .int j :: .ref a :: rest) (hd : decode c.code g.pc = .ok (.aastore, 1)) :
    ∃ T' h', Stand p l e R s m args below meth c T' (locs ++ [⟨a, j.toNatClampNeg⟩]) cells slots ∧ T'.heap = h' ∧ Wr h h' a j.toNatClampNeg x ∧ Arv Z h' a kc ty z (vs.set i x) dv ∧ ∀ target, Steps p.tables e below (T'.setTop { g with pc := g.pc + 1, stack := rest }) target → Steps p.tables e below (T.setTop g) target := by
  obtain ⟨cl, Ar, q, Sz, Ng, Hs, Ft⟩ := V
  obtain ⟨T', h', X', e', W', st⟩ := stR X hx hZ eT Ar (j := j) (inb_of Sz hin) hty (F cl Ar q) hg hs hd
  exact ⟨T', h', X', e', W', Arv.set Ar q Sz Ng Hs Ft hf W' i hj hi, st⟩
end Arr
section Dbl
open Jvm.Free.XS
variable {tb : Tables} [Ours tb] {target : State} {g : JFrame}
theorem own_dloadN (h : At T m c below) (hx : tb.exec = Jvm.exec) (hg : g.method = m) {k : Fin 4} {v : UInt64} (hd : decode c.code g.pc = .ok (.dload_n k, 1)) (hl : g.locals[k.val]? = some (.val (.double v))) (hr : Steps tb e below (T.setTop { g with pc := g.pc + 1, stack := .double v :: g.stack }) target) : Steps tb e below (T.setTop g) target := by
  subst hg
  jvm_step h [h.top, hx, hd, hl]
  exact hr
theorem own_dload (h : At T m c below) (hx : tb.exec = Jvm.exec) (hg : g.method = m) {k : Nat} {v : UInt64} (hd : decode c.code g.pc = .ok (.dload k, 2)) (hl : g.locals[k]? = some (.val (.double v))) (hr : Steps tb e below (T.setTop { g with pc := g.pc + 2, stack := .double v :: g.stack }) target) : Steps tb e below (T.setTop g) target := by
  subst hg
  jvm_step h [h.top, hx, hd, hl]
  exact hr
theorem own_i2d (h : At T m c below) (hx : tb.exec = Jvm.exec) (hg : g.method = m) {x : Int32} {rest : List Value} (hd : decode c.code g.pc = .ok (.i2d, 1)) (hs : g.stack = .int x :: rest) (hr : Steps tb e below (T.setTop { g with pc := g.pc + 1, stack := .double (FP.i2d x) :: rest }) target) : Steps tb e below (T.setTop g) target := by
  subst hg
  jvm_step h [h.top, hx, hd, hs]
  exact hr
theorem own_dconst0 (h : At T m c below) (hx : tb.exec = Jvm.exec) (hg : g.method = m) (hd : decode c.code g.pc = .ok (.dconst 0, 1)) (hr : Steps tb e below (T.setTop { g with pc := g.pc + 1, stack := .double FP.dconst0 :: g.stack }) target) : Steps tb e below (T.setTop g) target := by
  subst hg
  jvm_step h [h.top, hx, hd]
  exact hr
theorem own_dconst1 (h : At T m c below) (hx : tb.exec = Jvm.exec) (hg : g.method = m) (hd : decode c.code g.pc = .ok (.dconst 1, 1)) (hr : Steps tb e below (T.setTop { g with pc := g.pc + 1, stack := .double FP.dconst1 :: g.stack }) target) : Steps tb e below (T.setTop g) target := by
  subst hg
  jvm_step h [h.top, hx, hd]
  exact hr
theorem own_pop2D (h : At T m c below) (hx : tb.exec = Jvm.exec) (hg : g.method = m) {v : UInt64} {rest : List Value} (hd : decode c.code g.pc = .ok (.pop2, 1)) (hs : g.stack = .double v :: rest) (hr : Steps tb e below (T.setTop { g with pc := g.pc + 1, stack := rest }) target) : Steps tb e below (T.setTop g) target := by
  subst hg
  jvm_step h [h.top, hx, hd, hs, Value.category]
  exact hr
theorem own_lsw (h : At T m c below) (hx : tb.exec = Jvm.exec) (hg : g.method = m) {dflt : Int} {prs : Array (Int × Int)} {len : Nat} {o : Int} {pc0 pc' : Nat} (hpc : g.pc = pc0) (hd : decode c.code g.pc = .ok (.lookupswitch dflt prs, len)) {i : Int32} {rest : List Value} (hs : g.stack = .int i :: rest) (ho : lookupswitch.offset prs.toList dflt i.toInt = o) (h0 : 0 ≤ (pc0 : Int) + o) (hp : ((pc0 : Int) + o).toNat = pc') (hk : (prs.toList.zip prs.toList.tail).all (fun q => decide (q.1.1 < q.2.1)) = true)
    (hr : Steps tb e below (T.setTop { g with pc := pc', stack := rest }) target) : Steps tb e below (T.setTop g) target := by
  subst hg hpc hp
  jvm_step h [h.top, hx, hd, hs, ho, h0, lookupswitch.wp_chain]
  exact ⟨fun a b a' b' hm => by simpa using List.all_eq_true.mp hk _ hm, hr⟩
theorem own_dcmp (h : At T m c below) (hx : tb.exec = Jvm.exec) (hg : g.method = m) {x y : UInt64} {rest : List Value} {op : CmpOp} {o : Ordering} (hd : decode c.code g.pc = .ok (.dcmp op, 1)) (hs : g.stack = .double y :: .double x :: rest) (hc : FP.dcmp x y = some o) (hr : Steps tb e below (T.setTop { g with pc := g.pc + 1, stack := .int (FP.cmpInt 0 (some o)) :: rest }) target) : Steps tb e below (T.setTop g) target := by
  subst hg
  cases o <;> (jvm_step h [h.top, hx, hd, hs, hc, cmpValue]; exact hr)
end Dbl
theorem own_ne0 {s : State} {args : Array Value} {t : Term} {x : Int32} (ev : t.eval args s none [] s = some (.int x)) (h : (Cond.not (Cond.eq t (.int (0 : Int32)))).before args s = true) : ¬ (x = (0 : Int32)) := fun q => by
  subst q
  have h' := Cond.before_iff.mp h
  have e2 : (Term.int (0 : Int32)).eval args s none [] s = some (.int (0 : Int32)) := rfl
  simp only [Cond.value, ev, e2] at h'
  simp at h'
def own_sel {α : Type} (P : Prop) [Decidable P] (x y : α) : α := if P then x else y
theorem own_sel_t {α : Type} {P : Prop} [Decidable P] {x y : α} (h : P) : own_sel P x y = x := if_pos h
theorem own_sel_f {α : Type} {P : Prop} [Decidable P] {x y : α} (h : ¬ P) : own_sel P x y = y := if_neg h
def own_b2i (P : Prop) [Decidable P] : Int32 := if P then 1 else 0
theorem own_b2i_1 {P : Prop} [Decidable P] (h : P) : own_b2i P = 1 := by rw [own_b2i, if_pos h]
theorem own_b2i_congr {P R : Prop} [Decidable P] [Decidable R] (h : P ↔ R) : own_b2i P = own_b2i R := by
  by_cases q : P
  · rw [own_b2i_1 q, own_b2i_1 (h.mp q)]
  · rw [own_b2i, own_b2i, if_neg q, if_neg (fun r => q (h.mpr r))]
theorem own_b2i_t {P : Prop} [Decidable P] (h : P) : ¬ own_b2i P = 0 := by rw [own_b2i, if_pos h]; decide
theorem own_b2i_f {P : Prop} [Decidable P] (h : ¬ P) : own_b2i P = 0 := by rw [own_b2i, if_neg h]
theorem own_sta_keep {C n d : String} {v : Value} (F : Sta Z h C n d v) (K : Keep h h' ws) (q : ∀ st ∈ ws, ∀ c, h[st]? = some c → c.vm.isStatics = false) : Sta Z h' C n d v := by
  obtain ⟨cf, i, k, f, st, cell, h1, h2, h3, h4, h5, h6, h7⟩ := F
  exact ⟨cf, i, k, f, st, cell, h1, h2, h3, h4, K.2.1 st cell h5 (fun z => by rw [q st z cell h5] at h6; cases h6), h6, h7⟩
theorem own_ws0 : ∀ st ∈ ([] : List Addr), ∀ c, h[st]? = some c → c.vm.isStatics = false := fun _ q => nomatch q
theorem own_wsE {a : Addr} {C : String} (F : Exa Z h a C) (q : ∀ st ∈ ws, ∀ c, h[st]? = some c → c.vm.isStatics = false) : ∀ st ∈ a :: ws, ∀ c, h[st]? = some c → c.vm.isStatics = false := fun st hs c hc => by
  rcases List.mem_cons.mp hs with rfl | hs
  · obtain ⟨cell, k, h1, -, -, h4, -⟩ := F; cases h1.symm.trans hc; exact h4
  · exact q st hs c hc
theorem own_wsF {a : Addr} {C n d : String} {v : Value} (F : Fld Z h a C n d v) (q : ∀ st ∈ ws, ∀ c, h[st]? = some c → c.vm.isStatics = false) : ∀ st ∈ a :: ws, ∀ c, h[st]? = some c → c.vm.isStatics = false := fun st hs c hc => by
  rcases List.mem_cons.mp hs with rfl | hs
  · exact old_plain F c hc
  · exact q st hs c hc
theorem own_wsV {a : Addr} {k : ClassId} {ty : FieldType} {z : Int32} {vs : List Value} {dv : Value} (F : Arv Z h a k ty z vs dv) (q : ∀ st ∈ ws, ∀ c, h[st]? = some c → c.vm.isStatics = false) : ∀ st ∈ a :: ws, ∀ c, h[st]? = some c → c.vm.isStatics = false := fun st hs c hc => by
  rcases List.mem_cons.mp hs with rfl | hs
  · obtain ⟨cl, A, -⟩ := F; cases A.1.symm.trans hc; exact A.plain
  · exact q st hs c hc
theorem own_kx (K : Keep h h' []) : Ext h h' := ⟨K.1, fun a c q => K.2.1 a c q nin0⟩
theorem own_ins_keep {a : Addr} {C : String} {bo : Bool} (F : Ins Z h a C bo) (K : Keep h h' ws) : Ins Z h' a C bo := by
  obtain ⟨cell, cT, h1, h2, h3⟩ := F
  obtain ⟨c', q, r1, r2, r3⟩ := K.2.2 a cell h1
  exact ⟨c', cT, q, h2, by rw [r1, r2]; exact h3⟩
end Own
theorem ow52 {Z : State} {a0 : Array Value} (hw : ∀ d ∈ tables_1, d.before a0 Z = true) : (Jvm.Cond.superclass "java/lang/Long" "java/lang/Number").before a0 Z = true := hw _ (List.mem_of_getElem? (i := 52) rfl)
theorem ow1 {Z : State} {a0 : Array Value} (hw : ∀ d ∈ tables_1, d.before a0 Z = true) : (Jvm.Cond.instantiable "com/example/aliquot/aliquot/Task" (4 : Nat)).before a0 Z = true := hw _ (List.mem_of_getElem? (i := 1) rfl)
theorem ow53 {Z : State} {a0 : Array Value} (hw : ∀ d ∈ tables_1, d.before a0 Z = true) : (Jvm.Cond.superclass "java/lang/Number" "java/lang/Object").before a0 Z = true := hw _ (List.mem_of_getElem? (i := 53) rfl)
theorem ow54 {Z : State} {a0 : Array Value} (hw : ∀ d ∈ tables_1, d.before a0 Z = true) : (Jvm.Cond.noSuperclass "java/lang/Object").before a0 Z = true := hw _ (List.mem_of_getElem? (i := 54) rfl)
theorem ow11 {Z : State} {a0 : Array Value} (hw : ∀ d ∈ tables_1, d.before a0 Z = true) : (Jvm.Cond.methodLink "java/lang/Record" (1 : Nat) ({ cls := "java/lang/Object", name := "<init>", desc := "()V" } : Jvm.MethodName)).before a0 Z = true := hw _ (List.mem_of_getElem? (i := 11) rfl)
theorem ow13 {Z : State} {a0 : Array Value} (hw : ∀ d ∈ tables_1, d.before a0 Z = true) : (Jvm.Cond.code ({ cls := "java/lang/Object", name := "<init>", desc := "()V" } : Jvm.MethodName) object_method_1_code (1 : Nat) (Option.none : Option Jvm.ClassFile.FieldType)).before a0 Z = true := hw _ (List.mem_of_getElem? (i := 13) rfl)
theorem ow12 {Z : State} {a0 : Array Value} (hw : ∀ d ∈ tables_1, d.before a0 Z = true) : (Jvm.Cond.instanceMethod ({ cls := "java/lang/Object", name := "<init>", desc := "()V" } : Jvm.MethodName)).before a0 Z = true := hw _ (List.mem_of_getElem? (i := 12) rfl)
abbrev mn0 : MethodName := ⟨"java/lang/Record", "<init>", "()V"⟩
theorem ow6 {Z : State} {a0 : Array Value} (hw : ∀ d ∈ tables_1, d.before a0 Z = true) : (Jvm.Cond.methodLink "com/example/aliquot/aliquot/Task" (1 : Nat) ({ cls := "java/lang/Record", name := "<init>", desc := "()V" } : Jvm.MethodName)).before a0 Z = true := hw _ (List.mem_of_getElem? (i := 6) rfl)
theorem ow10 {Z : State} {a0 : Array Value} (hw : ∀ d ∈ tables_1, d.before a0 Z = true) : (Jvm.Cond.code ({ cls := "java/lang/Record", name := "<init>", desc := "()V" } : Jvm.MethodName) jdk_30_method_1_code (1 : Nat) (Option.none : Option Jvm.ClassFile.FieldType)).before a0 Z = true := hw _ (List.mem_of_getElem? (i := 10) rfl)
theorem ow9 {Z : State} {a0 : Array Value} (hw : ∀ d ∈ tables_1, d.before a0 Z = true) : (Jvm.Cond.initialized "java/lang/Record").before a0 Z = true := hw _ (List.mem_of_getElem? (i := 9) rfl)
theorem ow7 {Z : State} {a0 : Array Value} (hw : ∀ d ∈ tables_1, d.before a0 Z = true) : (Jvm.Cond.instanceMethod ({ cls := "java/lang/Record", name := "<init>", desc := "()V" } : Jvm.MethodName)).before a0 Z = true := hw _ (List.mem_of_getElem? (i := 7) rfl)
theorem ow14 {Z : State} {a0 : Array Value} (hw : ∀ d ∈ tables_1, d.before a0 Z = true) : (Jvm.Cond.fieldLink "com/example/aliquot/aliquot/Task" (7 : Nat) "com/example/aliquot/aliquot/Task" "number" "J").before a0 Z = true := hw _ (List.mem_of_getElem? (i := 14) rfl)
theorem ow15 {Z : State} {a0 : Array Value} (hw : ∀ d ∈ tables_1, d.before a0 Z = true) : (Jvm.Cond.laysFinal "com/example/aliquot/aliquot/Task" "com/example/aliquot/aliquot/Task" "number" "J").before a0 Z = true := hw _ (List.mem_of_getElem? (i := 15) rfl)
theorem ow16 {Z : State} {a0 : Array Value} (hw : ∀ d ∈ tables_1, d.before a0 Z = true) : (Jvm.Cond.fieldLink "com/example/aliquot/aliquot/Task" (13 : Nat) "com/example/aliquot/aliquot/Task" "firstRecord" "J").before a0 Z = true := hw _ (List.mem_of_getElem? (i := 16) rfl)
theorem ow17 {Z : State} {a0 : Array Value} (hw : ∀ d ∈ tables_1, d.before a0 Z = true) : (Jvm.Cond.laysFinal "com/example/aliquot/aliquot/Task" "com/example/aliquot/aliquot/Task" "firstRecord" "J").before a0 Z = true := hw _ (List.mem_of_getElem? (i := 17) rfl)
theorem ow18 {Z : State} {a0 : Array Value} (hw : ∀ d ∈ tables_1, d.before a0 Z = true) : (Jvm.Cond.fieldLink "com/example/aliquot/aliquot/Task" (16 : Nat) "com/example/aliquot/aliquot/Task" "lastRecord" "J").before a0 Z = true := hw _ (List.mem_of_getElem? (i := 18) rfl)
theorem ow19 {Z : State} {a0 : Array Value} (hw : ∀ d ∈ tables_1, d.before a0 Z = true) : (Jvm.Cond.laysFinal "com/example/aliquot/aliquot/Task" "com/example/aliquot/aliquot/Task" "lastRecord" "J").before a0 Z = true := hw _ (List.mem_of_getElem? (i := 19) rfl)
theorem ow20 {Z : State} {a0 : Array Value} (hw : ∀ d ∈ tables_1, d.before a0 Z = true) : (Jvm.Cond.fieldLink "com/example/aliquot/aliquot/Task" (19 : Nat) "com/example/aliquot/aliquot/Task" "firstWithoutIdentifier" "J").before a0 Z = true := hw _ (List.mem_of_getElem? (i := 20) rfl)
theorem ow21 {Z : State} {a0 : Array Value} (hw : ∀ d ∈ tables_1, d.before a0 Z = true) : (Jvm.Cond.laysFinal "com/example/aliquot/aliquot/Task" "com/example/aliquot/aliquot/Task" "firstWithoutIdentifier" "J").before a0 Z = true := hw _ (List.mem_of_getElem? (i := 21) rfl)
abbrev mn1 : MethodName := ⟨"com/example/aliquot/aliquot/Task", "<init>", "(JJJJ)V"⟩
theorem ow49 {Z : State} {a0 : Array Value} (hw : ∀ d ∈ tables_1, d.before a0 Z = true) : (Jvm.Cond.methodLink "java/lang/Number" (1 : Nat) ({ cls := "java/lang/Object", name := "<init>", desc := "()V" } : Jvm.MethodName)).before a0 Z = true := hw _ (List.mem_of_getElem? (i := 49) rfl)
abbrev mn2 : MethodName := ⟨"java/lang/Number", "<init>", "()V"⟩
theorem ow43 {Z : State} {a0 : Array Value} (hw : ∀ d ∈ tables_1, d.before a0 Z = true) : (Jvm.Cond.methodLink "java/lang/Long" (270 : Nat) ({ cls := "java/lang/Number", name := "<init>", desc := "()V" } : Jvm.MethodName)).before a0 Z = true := hw _ (List.mem_of_getElem? (i := 43) rfl)
theorem ow48 {Z : State} {a0 : Array Value} (hw : ∀ d ∈ tables_1, d.before a0 Z = true) : (Jvm.Cond.code ({ cls := "java/lang/Number", name := "<init>", desc := "()V" } : Jvm.MethodName) jdk_18_method_1_code (1 : Nat) (Option.none : Option Jvm.ClassFile.FieldType)).before a0 Z = true := hw _ (List.mem_of_getElem? (i := 48) rfl)
theorem ow47 {Z : State} {a0 : Array Value} (hw : ∀ d ∈ tables_1, d.before a0 Z = true) : (Jvm.Cond.initialized "java/lang/Number").before a0 Z = true := hw _ (List.mem_of_getElem? (i := 47) rfl)
theorem ow44 {Z : State} {a0 : Array Value} (hw : ∀ d ∈ tables_1, d.before a0 Z = true) : (Jvm.Cond.instanceMethod ({ cls := "java/lang/Number", name := "<init>", desc := "()V" } : Jvm.MethodName)).before a0 Z = true := hw _ (List.mem_of_getElem? (i := 44) rfl)
theorem ow50 {Z : State} {a0 : Array Value} (hw : ∀ d ∈ tables_1, d.before a0 Z = true) : (Jvm.Cond.fieldLink "java/lang/Long" (273 : Nat) "java/lang/Long" "value" "J").before a0 Z = true := hw _ (List.mem_of_getElem? (i := 50) rfl)
theorem ow51 {Z : State} {a0 : Array Value} (hw : ∀ d ∈ tables_1, d.before a0 Z = true) : (Jvm.Cond.laysFinal "java/lang/Long" "java/lang/Long" "value" "J").before a0 Z = true := hw _ (List.mem_of_getElem? (i := 51) rfl)
theorem ow38 {Z : State} {a0 : Array Value} (hw : ∀ d ∈ tables_1, d.before a0 Z = true) : (Jvm.Cond.instantiable "java/lang/Long" (1 : Nat)).before a0 Z = true := hw _ (List.mem_of_getElem? (i := 38) rfl)
abbrev mn3 : MethodName := ⟨"java/lang/Long", "<init>", "(J)V"⟩
theorem ow26 {Z : State} {a0 : Array Value} (hw : ∀ d ∈ tables_1, d.before a0 Z = true) : (Jvm.Cond.constantLong "java/lang/Long" (230 : Nat) (-128 : Int64)).before a0 Z = true := hw _ (List.mem_of_getElem? (i := 26) rfl)
theorem ow37 {Z : State} {a0 : Array Value} (hw : ∀ d ∈ tables_1, d.before a0 Z = true) : (Jvm.Cond.classLink "java/lang/Long" (1 : Nat) "java/lang/Long").before a0 Z = true := hw _ (List.mem_of_getElem? (i := 37) rfl)
theorem ow24 {Z : State} {a0 : Array Value} (hw : ∀ d ∈ tables_1, d.before a0 Z = true) : (Jvm.Cond.initialized "java/lang/Long").before a0 Z = true := hw _ (List.mem_of_getElem? (i := 24) rfl)
theorem ow39 {Z : State} {a0 : Array Value} (hw : ∀ d ∈ tables_1, d.before a0 Z = true) : (Jvm.Cond.methodLink "java/lang/Long" (240 : Nat) ({ cls := "java/lang/Long", name := "<init>", desc := "(J)V" } : Jvm.MethodName)).before a0 Z = true := hw _ (List.mem_of_getElem? (i := 39) rfl)
theorem ow42 {Z : State} {a0 : Array Value} (hw : ∀ d ∈ tables_1, d.before a0 Z = true) : (Jvm.Cond.code ({ cls := "java/lang/Long", name := "<init>", desc := "(J)V" } : Jvm.MethodName) jdk_35_method_26_code (3 : Nat) (Option.none : Option Jvm.ClassFile.FieldType)).before a0 Z = true := hw _ (List.mem_of_getElem? (i := 42) rfl)
theorem ow40 {Z : State} {a0 : Array Value} (hw : ∀ d ∈ tables_1, d.before a0 Z = true) : (Jvm.Cond.instanceMethod ({ cls := "java/lang/Long", name := "<init>", desc := "(J)V" } : Jvm.MethodName)).before a0 Z = true := hw _ (List.mem_of_getElem? (i := 40) rfl)
theorem ow27 {Z : State} {a0 : Array Value} (hw : ∀ d ∈ tables_1, d.before a0 Z = true) : (Jvm.Cond.constantLong "java/lang/Long" (232 : Nat) (127 : Int64)).before a0 Z = true := hw _ (List.mem_of_getElem? (i := 27) rfl)
theorem ow28 {Z : State} {a0 : Array Value} (hw : ∀ d ∈ tables_1, d.before a0 Z = true) : (Jvm.Cond.fieldLink "java/lang/Long" (234 : Nat) "java/lang/Long$LongCache" "cache" "[Ljava/lang/Long;").before a0 Z = true := hw _ (List.mem_of_getElem? (i := 28) rfl)
abbrev mn4 : MethodName := ⟨"java/lang/Long", "valueOf", "(J)Ljava/lang/Long;"⟩
theorem ow35 {Z : State} {a0 : Array Value} (hw : ∀ d ∈ tables_1, d.before a0 Z = true) : (Jvm.Cond.classLink "com/example/aliquot/aliquot/Task" (8 : Nat) "com/example/aliquot/aliquot/Task").before a0 Z = true := hw _ (List.mem_of_getElem? (i := 35) rfl)
abbrev mn5 : MethodName := ⟨"com/example/aliquot/aliquot/Task", "equals", "(Ljava/lang/Object;)Z"⟩
theorem ow0 {Z : State} {a0 : Array Value} (hw : ∀ d ∈ tables_1, d.before a0 Z = true) : (Jvm.Cond.classLink "com/example/aliquot/aliquot/TaskEqualsPinLaw" (7 : Nat) "com/example/aliquot/aliquot/Task").before a0 Z = true := hw _ (List.mem_of_getElem? (i := 0) rfl)
theorem ow2 {Z : State} {a0 : Array Value} (hw : ∀ d ∈ tables_1, d.before a0 Z = true) : (Jvm.Cond.initialized "com/example/aliquot/aliquot/Task").before a0 Z = true := hw _ (List.mem_of_getElem? (i := 2) rfl)
theorem ow3 {Z : State} {a0 : Array Value} (hw : ∀ d ∈ tables_1, d.before a0 Z = true) : (Jvm.Cond.methodLink "com/example/aliquot/aliquot/TaskEqualsPinLaw" (9 : Nat) ({ cls := "com/example/aliquot/aliquot/Task", name := "<init>", desc := "(JJJJ)V" } : Jvm.MethodName)).before a0 Z = true := hw _ (List.mem_of_getElem? (i := 3) rfl)
theorem ow5 {Z : State} {a0 : Array Value} (hw : ∀ d ∈ tables_1, d.before a0 Z = true) : (Jvm.Cond.code ({ cls := "com/example/aliquot/aliquot/Task", name := "<init>", desc := "(JJJJ)V" } : Jvm.MethodName) prog_85_method_1_code (9 : Nat) (Option.none : Option Jvm.ClassFile.FieldType)).before a0 Z = true := hw _ (List.mem_of_getElem? (i := 5) rfl)
theorem ow4 {Z : State} {a0 : Array Value} (hw : ∀ d ∈ tables_1, d.before a0 Z = true) : (Jvm.Cond.instanceMethod ({ cls := "com/example/aliquot/aliquot/Task", name := "<init>", desc := "(JJJJ)V" } : Jvm.MethodName)).before a0 Z = true := hw _ (List.mem_of_getElem? (i := 4) rfl)
theorem ow22 {Z : State} {a0 : Array Value} (hw : ∀ d ∈ tables_1, d.before a0 Z = true) : (Jvm.Cond.methodLink "com/example/aliquot/aliquot/TaskEqualsPinLaw" (12 : Nat) ({ cls := "java/lang/Long", name := "valueOf", desc := "(J)Ljava/lang/Long;" } : Jvm.MethodName)).before a0 Z = true := hw _ (List.mem_of_getElem? (i := 22) rfl)
theorem ow25 {Z : State} {a0 : Array Value} (hw : ∀ d ∈ tables_1, d.before a0 Z = true) : (Jvm.Cond.code ({ cls := "java/lang/Long", name := "valueOf", desc := "(J)Ljava/lang/Long;" } : Jvm.MethodName) jdk_35_method_24_code (3 : Nat) (Option.some (Jvm.ClassFile.FieldType.object "java/lang/Long"))).before a0 Z = true := hw _ (List.mem_of_getElem? (i := 25) rfl)
theorem ow23 {Z : State} {a0 : Array Value} (hw : ∀ d ∈ tables_1, d.before a0 Z = true) : (Jvm.Cond.static ({ cls := "java/lang/Long", name := "valueOf", desc := "(J)Ljava/lang/Long;" } : Jvm.MethodName)).before a0 Z = true := hw _ (List.mem_of_getElem? (i := 23) rfl)
theorem ow30 {Z : State} {a0 : Array Value} (hw : ∀ d ∈ tables_1, d.before a0 Z = true) : (Jvm.Cond.methodLink "com/example/aliquot/aliquot/TaskEqualsPinLaw" (18 : Nat) ({ cls := "com/example/aliquot/aliquot/Task", name := "equals", desc := "(Ljava/lang/Object;)Z" } : Jvm.MethodName)).before a0 Z = true := hw _ (List.mem_of_getElem? (i := 30) rfl)
theorem ow34 {Z : State} {a0 : Array Value} (hw : ∀ d ∈ tables_1, d.before a0 Z = true) : (Jvm.Cond.code ({ cls := "com/example/aliquot/aliquot/Task", name := "equals", desc := "(Ljava/lang/Object;)Z" } : Jvm.MethodName) prog_85_method_2_code (3 : Nat) (Option.some Jvm.ClassFile.FieldType.boolean)).before a0 Z = true := hw _ (List.mem_of_getElem? (i := 34) rfl)
theorem ow33 {Z : State} {a0 : Array Value} (hw : ∀ d ∈ tables_1, d.before a0 Z = true) : (Jvm.Cond.selects "com/example/aliquot/aliquot/Task" ({ cls := "com/example/aliquot/aliquot/Task", name := "equals", desc := "(Ljava/lang/Object;)Z" } : Jvm.MethodName) ({ cls := "com/example/aliquot/aliquot/Task", name := "equals", desc := "(Ljava/lang/Object;)Z" } : Jvm.MethodName)).before a0 Z = true := hw _ (List.mem_of_getElem? (i := 33) rfl)
theorem ow31 {Z : State} {a0 : Array Value} (hw : ∀ d ∈ tables_1, d.before a0 Z = true) : (Jvm.Cond.declares ({ cls := "com/example/aliquot/aliquot/Task", name := "equals", desc := "(Ljava/lang/Object;)Z" } : Jvm.MethodName)).before a0 Z = true := hw _ (List.mem_of_getElem? (i := 31) rfl)
theorem ow32 {Z : State} {a0 : Array Value} (hw : ∀ d ∈ tables_1, d.before a0 Z = true) : (Jvm.Cond.instanceMethod ({ cls := "com/example/aliquot/aliquot/Task", name := "equals", desc := "(Ljava/lang/Object;)Z" } : Jvm.MethodName)).before a0 Z = true := hw _ (List.mem_of_getElem? (i := 32) rfl)
theorem own_selq {P : Prop} [Decidable P] {a d : Int64} (hd : ¬ d = 0) : a = own_sel P a (a + d) ↔ P := by
  simp only [own_sel]
  constructor
  · intro h
    split at h
    · assumption
    · exfalso; apply hd; grind
  · intro h; rw [if_pos h]
theorem own_sel0 {P : Prop} [Decidable P] {a : Int64} : a = own_sel P a (a + 0) := by simp [own_sel]
theorem own_bits (s : Int32) : ((s &&& (1 : Int32)) = 0 ∧ (s &&& (2 : Int32)) = 0 ∧ (s &&& (4 : Int32)) = 0 ∧ (s &&& (8 : Int32)) = 0) ↔ (s &&& (15 : Int32)) = 0 := by
  have e1 : (15 : Int32) = (1 : Int32) ||| (2 : Int32) ||| (4 : Int32) ||| (8 : Int32) := by decide
  constructor
  · intro ⟨h1, h2, h4, h8⟩
    apply Int32.toBitVec_inj.mp
    have h1' := congrArg Int32.toBitVec h1
    have h2' := congrArg Int32.toBitVec h2
    have h4' := congrArg Int32.toBitVec h4
    have h8' := congrArg Int32.toBitVec h8
    have g1 : s.toBitVec &&& 1#32 = 0#32 := h1'
    have g2 : s.toBitVec &&& 2#32 = 0#32 := h2'
    have g4 : s.toBitVec &&& 4#32 = 0#32 := h4'
    have g8 : s.toBitVec &&& 8#32 = 0#32 := h8'
    show s.toBitVec &&& 15#32 = 0#32
    have : (15#32 : BitVec 32) = 1#32 ||| 2#32 ||| 4#32 ||| 8#32 := by decide
    rw [this, BitVec.and_or_distrib_left, BitVec.and_or_distrib_left, BitVec.and_or_distrib_left, g1, g2, g4, g8]; decide
  · intro h
    have k : ∀ m : Int32, m &&& 15 = m → s &&& m = 0 := fun m hm => by
      rw [← hm, Int32.and_comm m 15, ← Int32.and_assoc, h, Int32.zero_and]
    exact ⟨k 1 (by decide), k 2 (by decide), k 4 (by decide), k 8 (by decide)⟩
theorem own_eqv {s : Int32} {a b c d dl : Int64} : (a = own_sel ((s &&& (1 : Int32)) = (0 : Int32)) a (a + dl) ∧ b = own_sel ((s &&& (2 : Int32)) = (0 : Int32)) b (b + dl) ∧ c = own_sel ((s &&& (4 : Int32)) = (0 : Int32)) c (c + dl) ∧ d = own_sel ((s &&& (8 : Int32)) = (0 : Int32)) d (d + dl)) ↔ ((s &&& (15 : Int32)) = (0 : Int32) ∨ dl = (0 : Int64)) := by
  by_cases h : dl = 0
  · subst h
    exact ⟨fun _ => Or.inr rfl, fun _ => ⟨own_sel0, own_sel0, own_sel0, own_sel0⟩⟩
  · rw [own_selq h, own_selq h, own_selq h, own_selq h, own_bits]
    exact ⟨Or.inl, fun q => q.elim id (fun r => absurd r h)⟩
theorem own_NSroot {Z : State} {a0 : Array Value} {O K : String} {n : Nat} (w : (Cond.noSuperclass O).before a0 Z = true) (wk : (Cond.instantiable K n).before a0 Z = true) (hn : O ≠ K) : NS Z O K := by
  obtain ⟨c, k, h1, h2, h3, -, -⟩ := Cond.noSuperclass_spec w
  obtain ⟨t, kt, g1, -⟩ := Cond.instantiable_spec wk
  have ne := ids_ne h1 g1 hn
  refine ⟨c, t, h1, g1, fun fuel => ?_⟩
  cases fuel with
  | zero => rfl
  | succ f => simp [Vm.isSubclassAux, ne, h2, h3]
theorem own_NSno {Z : State} {a0 : Array Value} {C S K : String} {n : Nat} (w : (Cond.superclass C S).before a0 Z = true) (wk : (Cond.instantiable K n).before a0 Z = true) (m : NS Z C K) (hn : C ≠ K) : ∃ c t, Z.vm.findClass C = some c ∧ Z.vm.findClass K = some t ∧ Z.vm.assignable c t = false := by
  obtain ⟨c, t, h0, g0, n3⟩ := m
  obtain ⟨p, k, kp, h1, h2, h3, h4, h5, -, h7⟩ := Cond.superclass_spec h0 w
  obtain ⟨t', kt, g1, g2, g3, g4, -⟩ := Cond.instantiable_spec wk
  cases g0.symm.trans g1
  have ne := ids_ne h0 g0 hn
  have gi : kt.isInterface = false := (Bool.or_eq_false_iff.mp g4).1
  refine ⟨c, t, h0, g0, ?_⟩
  show Z.vm.assignableAux (255 + 1) c t = false
  simp [Vm.assignableAux, ne, h2, g2, h5, g3, gi, Vm.isSubclass, n3]
theorem own_noTask {Z : State} {a0 : Array Value} (hw : ∀ d ∈ tables_1, d.before a0 Z = true) : ∃ c t, Z.vm.findClass "java/lang/Long" = some c ∧ Z.vm.findClass "com/example/aliquot/aliquot/Task" = some t ∧ Z.vm.assignable c t = false :=
  own_NSno (ow52 hw) (ow1 hw) (NS.step (ow52 hw) (NS.step (ow53 hw) (own_NSroot (ow54 hw) (ow1 hw) (by decide)) (by decide)) (by decide)) (by decide)
theorem d2_0 : decode jdk_30_method_1_code 0 = .ok (.aload_n 0, 1) := by decide +kernel
theorem d2_1 : decode jdk_30_method_1_code 1 = .ok (.invokespecial 1, 3) := by decide +kernel
theorem d2_4 : decode jdk_30_method_1_code 4 = .ok (.return_, 1) := by decide +kernel
theorem pn_5 : plainName "java/lang/Record" = true := by first | (simp [plainName, overriddenIn]; done) | decide +kernel
theorem ef_rm2 (m : MethodId) (y0 : Addr) : entryFrame m #[(.ref y0)] 1 = mkF m 0 #[.val (.ref y0)] [] := by first | (simp [entryFrame, mkF, argsToLocals, Value.category]; done) | rfl
def Q2 (Z : State) (y0 : Addr) (h0 : Heap) (n0 : Nat) (v : Option Value) (h : Heap) (L : List Loc) : Prop := v = none ∧ Fr n0 L ∧ h = h0
set_option maxRecDepth 65536 in
set_option maxHeartbeats 40000000 in
theorem rm2 (l : Launch) (Z : State) (a0 : Array Value) (hw : ∀ d ∈ tables_1, d.before a0 Z = true) (ws : List Jvm.Cond) (y0 : Addr) (h0 : Heap) (n0 : Nat) (Z0 : n0 ≤ h0.size) :
    MetFree l mn0 (head1 (Jvm.Cond.code mn0 jdk_30_method_1_code 1 none :: ws) ({ frames := 1, cells := 0, slots := 0, locals := 12 } : Room)) (fun a U => a = #[(.ref y0)] ∧ Z.Warmed39 U.vm ∧ U.heap = h0) (fun _ _ _ _ _ => True) (fun _ U o U' => ∃ v L, o = .returned v ∧ Q2 Z y0 h0 n0 v U'.heap L ∧ FrameEnd U o U' L ({ frames := 1, cells := 0, slots := 0, locals := 12 } : Room).cells ({ frames := 1, cells := 0, slots := 0, locals := 12 } : Room).slots) := by
  refine MetFree.of_bodySF (plainFor_of_name pn_5) hisR ?_
  intro p e s m args below meth c s₁ Bd hml0 hP hK
  obtain ⟨rfl, hZ, hh⟩ := hP
  have hx := Bd.exec
  have hby := Bd.bytes
  have hml : c.maxLocals = 1 := hml0
  have hown : s.vm.findClass "java/lang/Record" = some m.cls := findClass_of_methodNamed Bd.named
  have hnm := (name_of_methodNamed Bd.named Bd.method).1
  have X0 : Stand p l e ({ frames := 1, cells := 0, slots := 0, locals := 12 } : Room) s m #[(.ref y0)] below meth c s₁ [] 0 0 := Stand.of_body Bd
  have e0 : s₁.heap = h0 := by rw [← hh, Bd.state]; rfl
  have N0 := Fr.nil n0
  show own_Ends p e below s (Q2 Z y0 h0 n0) _ _ s₁ _
  rw [ef_rm2 m y0]
  refine own_go (T' := s₁) (f' := (mkF m 1 #[.val (.ref y0)] [(.ref y0)])) (fun _ k => XS.aloadN X0.here hx rfl (hb hby d2_0) rfl rfl k) ?_
  obtain ⟨T1, X1, e1, st1⟩ := initO X0 hx hZ hown (ow11 hw) (ow12 hw) (ow13 hw) e0 (g := (mkF m 1 #[.val (.ref y0)] [(.ref y0)])) rfl (by rw [hml]; rfl) rfl (hb hby d2_1) (by decide) (W := 0) (by show 2 * 0 + _ ≤ _; exact Nat.le_of_eq rfl) (by decide)
  refine own_go (T' := T1) (f' := (mkF m 4 #[.val (.ref y0)] [])) (fun _ k => st1 _ k) ?_
  refine own_ret X1 (v := none) (fun _ => rfl) Bd.notSynchronized (fun fs hr => X1.returnOut hx Bd.returns (hb hby d2_4) hr) ?_ (by decide) (by decide)
  show Q2 Z y0 h0 n0 _ T1.heap _
  exact ⟨rfl, N0, e1⟩
theorem pd0 : parseMethodDescriptor "()V" = some ⟨[], none⟩ := by decide +kernel
theorem d1_0 : decode prog_85_method_1_code 0 = .ok (.aload_n 0, 1) := by decide +kernel
theorem d1_1 : decode prog_85_method_1_code 1 = .ok (.invokespecial 1, 3) := by decide +kernel
theorem d1_4 : decode prog_85_method_1_code 4 = .ok (.aload_n 0, 1) := by decide +kernel
theorem d1_5 : decode prog_85_method_1_code 5 = .ok (.lload_n 1, 1) := by decide +kernel
theorem d1_6 : decode prog_85_method_1_code 6 = .ok (.putfield 7, 3) := by decide +kernel
theorem d1_9 : decode prog_85_method_1_code 9 = .ok (.aload_n 0, 1) := by decide +kernel
theorem d1_10 : decode prog_85_method_1_code 10 = .ok (.lload_n 3, 1) := by decide +kernel
theorem d1_11 : decode prog_85_method_1_code 11 = .ok (.putfield 13, 3) := by decide +kernel
theorem d1_14 : decode prog_85_method_1_code 14 = .ok (.aload_n 0, 1) := by decide +kernel
theorem d1_15 : decode prog_85_method_1_code 15 = .ok (.lload 5, 2) := by decide +kernel
theorem d1_17 : decode prog_85_method_1_code 17 = .ok (.putfield 16, 3) := by decide +kernel
theorem d1_20 : decode prog_85_method_1_code 20 = .ok (.aload_n 0, 1) := by decide +kernel
theorem d1_21 : decode prog_85_method_1_code 21 = .ok (.lload 7, 2) := by decide +kernel
theorem d1_23 : decode prog_85_method_1_code 23 = .ok (.putfield 19, 3) := by decide +kernel
theorem d1_26 : decode prog_85_method_1_code 26 = .ok (.return_, 1) := by decide +kernel
theorem pn_0 : plainName "com/example/aliquot/aliquot/Task" = true := by first | (simp [plainName, overriddenIn]; done) | decide +kernel
theorem ef_rm1 (m : MethodId) (y0 : Addr) (y1 : Int64) (y2 : Int64) (y3 : Int64) (y4 : Int64) : entryFrame m #[(.ref y0), (.long y1), (.long y2), (.long y3), (.long y4)] 9 = mkF m 0 #[.val (.ref y0), .val (.long y1), .second, .val (.long y2), .second, .val (.long y3), .second, .val (.long y4), .second] [] := by first | (simp [entryFrame, mkF, argsToLocals, Value.category]; done) | rfl
def Q1 (Z : State) (y0 : Addr) (y1 : Int64) (y2 : Int64) (y3 : Int64) (y4 : Int64) (u0 : Value) (u1 : Value) (u2 : Value) (u3 : Value) (h0 : Heap) (n0 : Nat) (v : Option Value) (h : Heap) (L : List Loc) : Prop := v = none ∧ Fr n0 L ∧ Keep h0 h [y0] ∧ Exa Z h y0 "com/example/aliquot/aliquot/Task" ∧ Fld Z h y0 "com/example/aliquot/aliquot/Task" "number" "J" (.long y1) ∧ Fld Z h y0 "com/example/aliquot/aliquot/Task" "firstRecord" "J" (.long y2) ∧ Fld Z h y0 "com/example/aliquot/aliquot/Task" "lastRecord" "J" (.long y3) ∧ Fld Z h y0 "com/example/aliquot/aliquot/Task" "firstWithoutIdentifier" "J" (.long y4)
set_option maxRecDepth 65536 in
set_option maxHeartbeats 40000000 in
theorem rm1 (l : Launch) (Z : State) (a0 : Array Value) (hw : ∀ d ∈ tables_1, d.before a0 Z = true) (ws : List Jvm.Cond) (y0 : Addr) (y1 : Int64) (y2 : Int64) (y3 : Int64) (y4 : Int64) (u0 : Value) (u1 : Value) (u2 : Value) (u3 : Value) (h0 : Heap) (n0 : Nat) (Z0 : n0 ≤ h0.size) (E_y0 : Exa Z h0 y0 "com/example/aliquot/aliquot/Task") (n_y0 : n0 ≤ y0) (F_0 : Fld Z h0 y0 "com/example/aliquot/aliquot/Task" "number" "J" u0) (F_1 : Fld Z h0 y0 "com/example/aliquot/aliquot/Task" "firstRecord" "J" u1) (F_2 : Fld Z h0 y0 "com/example/aliquot/aliquot/Task" "lastRecord" "J" u2) (F_3 : Fld Z h0 y0 "com/example/aliquot/aliquot/Task" "firstWithoutIdentifier" "J" u3) :
    MetFree l mn1 (head1 (Jvm.Cond.code mn1 prog_85_method_1_code 9 none :: ws) ({ frames := 2, cells := 0, slots := 0, locals := 24 } : Room)) (fun a U => a = #[(.ref y0), (.long y1), (.long y2), (.long y3), (.long y4)] ∧ Z.Warmed39 U.vm ∧ U.heap = h0) (fun _ _ _ _ _ => True) (fun _ U o U' => ∃ v L, o = .returned v ∧ Q1 Z y0 y1 y2 y3 y4 u0 u1 u2 u3 h0 n0 v U'.heap L ∧ FrameEnd U o U' L ({ frames := 2, cells := 0, slots := 0, locals := 24 } : Room).cells ({ frames := 2, cells := 0, slots := 0, locals := 24 } : Room).slots) := by
  refine MetFree.of_bodySF (plainFor_of_name pn_0) hisR ?_
  intro p e s m args below meth c s₁ Bd hml0 hP hK
  obtain ⟨rfl, hZ, hh⟩ := hP
  have hx := Bd.exec
  have hby := Bd.bytes
  have hml : c.maxLocals = 9 := hml0
  have hown : s.vm.findClass "com/example/aliquot/aliquot/Task" = some m.cls := findClass_of_methodNamed Bd.named
  have hnm := (name_of_methodNamed Bd.named Bd.method).1
  have X0 : Stand p l e ({ frames := 2, cells := 0, slots := 0, locals := 24 } : Room) s m #[(.ref y0), (.long y1), (.long y2), (.long y3), (.long y4)] below meth c s₁ [] 0 0 := Stand.of_body Bd
  have e0 : s₁.heap = h0 := by rw [← hh, Bd.state]; rfl
  have N0 := Fr.nil n0
  show own_Ends p e below s (Q1 Z y0 y1 y2 y3 y4 u0 u1 u2 u3 h0 n0) _ _ s₁ _
  rw [ef_rm1 m y0 y1 y2 y3 y4]
  refine own_go (T' := s₁) (f' := (mkF m 1 #[.val (.ref y0), .val (.long y1), .second, .val (.long y2), .second, .val (.long y3), .second, .val (.long y4), .second] [(.ref y0)])) (fun _ k => XS.aloadN X0.here hx rfl (hb hby d1_0) rfl rfl k) ?_
  obtain ⟨_, _, ⟨T1, L1, k1, n1⟩, -, X1, ⟨Lc1, hQ1, l1, y1, z1⟩, st1⟩ := X0.specialBack hx (y := mn0) rfl hown (mvT hZ (ow6 hw)) (mvT hZ (ow7 hw)) (mvT hZ (ow10 hw)) (by decide) (backOf (W := 0) (rm2 l Z a0 hw [] y0 h0 n0 Z0) hZ (ow10 hw) (ow9 hw) (by decide) (by decide)) (g := (mkF m 1 #[.val (.ref y0), .val (.long y1), .second, .val (.long y2), .second, .val (.long y3), .second, .val (.long y4), .second] [(.ref y0)])) rfl (by rw [hml]; rfl) (Steps.refl _) (a := y0) (argsL := []) (rest := []) (lenOf pd0 rfl) rfl (by show 2 * 0 + _ ≤ _; exact Nat.le_of_eq rfl) (hb hby d1_1) (fun _ _ => ⟨rfl, e0, (by decide : 0 + 0 ≤ _), (by decide : 0 + 0 ≤ _)⟩)
  dsimp only [Pt.U, Pt.locs, Pt.cells, Pt.slots] at X1 l1 y1 z1 st1 hQ1
  subst l1 y1 z1
  obtain ⟨rfl, N1q, hh1⟩ := hQ1
  have N1 := Fr.app N0 N1q
  refine own_go (T' := T1) (f' := (mkF m 6 #[.val (.ref y0), .val (.long y1), .second, .val (.long y2), .second, .val (.long y3), .second, .val (.long y4), .second] [(.long y1), (.ref y0)])) (fun _ k => st1.trans (XS.aloadN X1.here hx rfl (hb hby d1_4) rfl rfl (XS.lloadN X1.here hx rfl (hb hby d1_5) rfl k))) ?_
  obtain ⟨T2, h2, X2, e2, W2, st2⟩ := putF X1 hx hZ hown (host := "") (Or.inl (ow14 hw)) Via.refl hh1 F_0 E_y0 (Or.inr ⟨(ow15 hw), rfl, hnm⟩) (ow1 hw) (ty := .long) (by decide) rfl rfl (g := (mkF m 6 #[.val (.ref y0), .val (.long y1), .second, .val (.long y2), .second, .val (.long y3), .second, .val (.long y4), .second] [(.long y1), (.ref y0)])) rfl rfl (hb hby d1_6)
  have Fw2 := Fld.same W2 F_0
  have K2 : Keep h0 h2 [y0] := (Keep.refl h0 [y0]).wr W2 (Or.inl (List.mem_of_getElem? (i := 0) rfl))
  have N2 := Fr.snoc X2 N1 n_y0
  refine own_go (T' := T2) (f' := (mkF m 11 #[.val (.ref y0), .val (.long y1), .second, .val (.long y2), .second, .val (.long y3), .second, .val (.long y4), .second] [(.long y2), (.ref y0)])) (fun _ k => st2 _ (XS.aloadN X2.here hx rfl (hb hby d1_9) rfl rfl (XS.lloadN X2.here hx rfl (hb hby d1_10) rfl k))) ?_
  obtain ⟨T3, h3, X3, e3, W3, st3⟩ := putF X2 hx hZ hown (host := "") (Or.inl (ow16 hw)) Via.refl e2 (F_1.other W2 (Or.inr (slot_ne (Or.inr (ow17 hw)) (Or.inr (ow15 hw)) (by decide) (t := .long) (t' := .long) (by decide) (by decide)))) (E_y0.wr W2) (Or.inr ⟨(ow17 hw), rfl, hnm⟩) (ow1 hw) (ty := .long) (by decide) rfl rfl (g := (mkF m 11 #[.val (.ref y0), .val (.long y1), .second, .val (.long y2), .second, .val (.long y3), .second, .val (.long y4), .second] [(.long y2), (.ref y0)])) rfl rfl (hb hby d1_11)
  have Fw3 := Fld.same W3 (F_1.other W2 (Or.inr (slot_ne (Or.inr (ow17 hw)) (Or.inr (ow15 hw)) (by decide) (t := .long) (t' := .long) (by decide) (by decide))))
  have K3 : Keep h0 h3 [y0] := K2.wr W3 (Or.inl (List.mem_of_getElem? (i := 0) rfl))
  have N3 := Fr.snoc X3 N2 n_y0
  refine own_go (T' := T3) (f' := (mkF m 17 #[.val (.ref y0), .val (.long y1), .second, .val (.long y2), .second, .val (.long y3), .second, .val (.long y4), .second] [(.long y3), (.ref y0)])) (fun _ k => st3 _ (XS.aloadN X3.here hx rfl (hb hby d1_14) rfl rfl (XS.lload X3.here hx rfl (hb hby d1_15) rfl k))) ?_
  obtain ⟨T4, h4, X4, e4, W4, st4⟩ := putF X3 hx hZ hown (host := "") (Or.inl (ow18 hw)) Via.refl e3 ((F_2.other W2 (Or.inr (slot_ne (Or.inr (ow19 hw)) (Or.inr (ow15 hw)) (by decide) (t := .long) (t' := .long) (by decide) (by decide)))).other W3 (Or.inr (slot_ne (Or.inr (ow19 hw)) (Or.inr (ow17 hw)) (by decide) (t := .long) (t' := .long) (by decide) (by decide)))) ((E_y0.wr W2).wr W3) (Or.inr ⟨(ow19 hw), rfl, hnm⟩) (ow1 hw) (ty := .long) (by decide) rfl rfl (g := (mkF m 17 #[.val (.ref y0), .val (.long y1), .second, .val (.long y2), .second, .val (.long y3), .second, .val (.long y4), .second] [(.long y3), (.ref y0)])) rfl rfl (hb hby d1_17)
  have Fw4 := Fld.same W4 ((F_2.other W2 (Or.inr (slot_ne (Or.inr (ow19 hw)) (Or.inr (ow15 hw)) (by decide) (t := .long) (t' := .long) (by decide) (by decide)))).other W3 (Or.inr (slot_ne (Or.inr (ow19 hw)) (Or.inr (ow17 hw)) (by decide) (t := .long) (t' := .long) (by decide) (by decide))))
  have K4 : Keep h0 h4 [y0] := K3.wr W4 (Or.inl (List.mem_of_getElem? (i := 0) rfl))
  have N4 := Fr.snoc X4 N3 n_y0
  refine own_go (T' := T4) (f' := (mkF m 23 #[.val (.ref y0), .val (.long y1), .second, .val (.long y2), .second, .val (.long y3), .second, .val (.long y4), .second] [(.long y4), (.ref y0)])) (fun _ k => st4 _ (XS.aloadN X4.here hx rfl (hb hby d1_20) rfl rfl (XS.lload X4.here hx rfl (hb hby d1_21) rfl k))) ?_
  obtain ⟨T5, h5, X5, e5, W5, st5⟩ := putF X4 hx hZ hown (host := "") (Or.inl (ow20 hw)) Via.refl e4 (((F_3.other W2 (Or.inr (slot_ne (Or.inr (ow21 hw)) (Or.inr (ow15 hw)) (by decide) (t := .long) (t' := .long) (by decide) (by decide)))).other W3 (Or.inr (slot_ne (Or.inr (ow21 hw)) (Or.inr (ow17 hw)) (by decide) (t := .long) (t' := .long) (by decide) (by decide)))).other W4 (Or.inr (slot_ne (Or.inr (ow21 hw)) (Or.inr (ow19 hw)) (by decide) (t := .long) (t' := .long) (by decide) (by decide)))) (((E_y0.wr W2).wr W3).wr W4) (Or.inr ⟨(ow21 hw), rfl, hnm⟩) (ow1 hw) (ty := .long) (by decide) rfl rfl (g := (mkF m 23 #[.val (.ref y0), .val (.long y1), .second, .val (.long y2), .second, .val (.long y3), .second, .val (.long y4), .second] [(.long y4), (.ref y0)])) rfl rfl (hb hby d1_23)
  have Fw5 := Fld.same W5 (((F_3.other W2 (Or.inr (slot_ne (Or.inr (ow21 hw)) (Or.inr (ow15 hw)) (by decide) (t := .long) (t' := .long) (by decide) (by decide)))).other W3 (Or.inr (slot_ne (Or.inr (ow21 hw)) (Or.inr (ow17 hw)) (by decide) (t := .long) (t' := .long) (by decide) (by decide)))).other W4 (Or.inr (slot_ne (Or.inr (ow21 hw)) (Or.inr (ow19 hw)) (by decide) (t := .long) (t' := .long) (by decide) (by decide))))
  have K5 : Keep h0 h5 [y0] := K4.wr W5 (Or.inl (List.mem_of_getElem? (i := 0) rfl))
  have N5 := Fr.snoc X5 N4 n_y0
  refine own_go (T' := T5) (f' := (mkF m 26 #[.val (.ref y0), .val (.long y1), .second, .val (.long y2), .second, .val (.long y3), .second, .val (.long y4), .second] [])) (fun _ k => st5 _ k) ?_
  refine own_ret X5 (v := none) (fun _ => rfl) Bd.notSynchronized (fun fs hr => X5.returnOut hx Bd.returns (hb hby d1_26) hr) ?_ (by decide) (by decide)
  show Q1 Z y0 y1 y2 y3 y4 u0 u1 u2 u3 h0 n0 _ T5.heap _
  rw [e5]
  exact ⟨rfl, N5, K5, ((((E_y0.wr W2).wr W3).wr W4).wr W5), (((Fw2.other W3 (Or.inr (slot_ne (Or.inr (ow15 hw)) (Or.inr (ow17 hw)) (by decide) (t := .long) (t' := .long) (by decide) (by decide)))).other W4 (Or.inr (slot_ne (Or.inr (ow15 hw)) (Or.inr (ow19 hw)) (by decide) (t := .long) (t' := .long) (by decide) (by decide)))).other W5 (Or.inr (slot_ne (Or.inr (ow15 hw)) (Or.inr (ow21 hw)) (by decide) (t := .long) (t' := .long) (by decide) (by decide)))), ((Fw3.other W4 (Or.inr (slot_ne (Or.inr (ow17 hw)) (Or.inr (ow19 hw)) (by decide) (t := .long) (t' := .long) (by decide) (by decide)))).other W5 (Or.inr (slot_ne (Or.inr (ow17 hw)) (Or.inr (ow21 hw)) (by decide) (t := .long) (t' := .long) (by decide) (by decide)))), (Fw4.other W5 (Or.inr (slot_ne (Or.inr (ow19 hw)) (Or.inr (ow21 hw)) (by decide) (t := .long) (t' := .long) (by decide) (by decide)))), Fw5⟩
theorem d7_0 : decode jdk_18_method_1_code 0 = .ok (.aload_n 0, 1) := by decide +kernel
theorem d7_1 : decode jdk_18_method_1_code 1 = .ok (.invokespecial 1, 3) := by decide +kernel
theorem d7_4 : decode jdk_18_method_1_code 4 = .ok (.return_, 1) := by decide +kernel
theorem pn_3 : plainName "java/lang/Number" = true := by first | (simp [plainName, overriddenIn]; done) | decide +kernel
theorem ef_rm7 (m : MethodId) (y0 : Addr) : entryFrame m #[(.ref y0)] 1 = mkF m 0 #[.val (.ref y0)] [] := by first | (simp [entryFrame, mkF, argsToLocals, Value.category]; done) | rfl
def Q7 (Z : State) (y0 : Addr) (h0 : Heap) (n0 : Nat) (v : Option Value) (h : Heap) (L : List Loc) : Prop := v = none ∧ Fr n0 L ∧ h = h0
set_option maxRecDepth 65536 in
set_option maxHeartbeats 40000000 in
theorem rm7 (l : Launch) (Z : State) (a0 : Array Value) (hw : ∀ d ∈ tables_1, d.before a0 Z = true) (ws : List Jvm.Cond) (y0 : Addr) (h0 : Heap) (n0 : Nat) (Z0 : n0 ≤ h0.size) :
    MetFree l mn2 (head1 (Jvm.Cond.code mn2 jdk_18_method_1_code 1 none :: ws) ({ frames := 1, cells := 0, slots := 0, locals := 12 } : Room)) (fun a U => a = #[(.ref y0)] ∧ Z.Warmed39 U.vm ∧ U.heap = h0) (fun _ _ _ _ _ => True) (fun _ U o U' => ∃ v L, o = .returned v ∧ Q7 Z y0 h0 n0 v U'.heap L ∧ FrameEnd U o U' L ({ frames := 1, cells := 0, slots := 0, locals := 12 } : Room).cells ({ frames := 1, cells := 0, slots := 0, locals := 12 } : Room).slots) := by
  refine MetFree.of_bodySF (plainFor_of_name pn_3) hisR ?_
  intro p e s m args below meth c s₁ Bd hml0 hP hK
  obtain ⟨rfl, hZ, hh⟩ := hP
  have hx := Bd.exec
  have hby := Bd.bytes
  have hml : c.maxLocals = 1 := hml0
  have hown : s.vm.findClass "java/lang/Number" = some m.cls := findClass_of_methodNamed Bd.named
  have hnm := (name_of_methodNamed Bd.named Bd.method).1
  have X0 : Stand p l e ({ frames := 1, cells := 0, slots := 0, locals := 12 } : Room) s m #[(.ref y0)] below meth c s₁ [] 0 0 := Stand.of_body Bd
  have e0 : s₁.heap = h0 := by rw [← hh, Bd.state]; rfl
  have N0 := Fr.nil n0
  show own_Ends p e below s (Q7 Z y0 h0 n0) _ _ s₁ _
  rw [ef_rm7 m y0]
  refine own_go (T' := s₁) (f' := (mkF m 1 #[.val (.ref y0)] [(.ref y0)])) (fun _ k => XS.aloadN X0.here hx rfl (hb hby d7_0) rfl rfl k) ?_
  obtain ⟨T1, X1, e1, st1⟩ := initO X0 hx hZ hown (ow49 hw) (ow12 hw) (ow13 hw) e0 (g := (mkF m 1 #[.val (.ref y0)] [(.ref y0)])) rfl (by rw [hml]; rfl) rfl (hb hby d7_1) (by decide) (W := 0) (by show 2 * 0 + _ ≤ _; exact Nat.le_of_eq rfl) (by decide)
  refine own_go (T' := T1) (f' := (mkF m 4 #[.val (.ref y0)] [])) (fun _ k => st1 _ k) ?_
  refine own_ret X1 (v := none) (fun _ => rfl) Bd.notSynchronized (fun fs hr => X1.returnOut hx Bd.returns (hb hby d7_4) hr) ?_ (by decide) (by decide)
  show Q7 Z y0 h0 n0 _ T1.heap _
  exact ⟨rfl, N0, e1⟩
theorem d6_0 : decode jdk_35_method_26_code 0 = .ok (.aload_n 0, 1) := by decide +kernel
theorem d6_1 : decode jdk_35_method_26_code 1 = .ok (.invokespecial 270, 3) := by decide +kernel
theorem d6_4 : decode jdk_35_method_26_code 4 = .ok (.aload_n 0, 1) := by decide +kernel
theorem d6_5 : decode jdk_35_method_26_code 5 = .ok (.lload_n 1, 1) := by decide +kernel
theorem d6_6 : decode jdk_35_method_26_code 6 = .ok (.putfield 273, 3) := by decide +kernel
theorem d6_9 : decode jdk_35_method_26_code 9 = .ok (.return_, 1) := by decide +kernel
theorem pn_2 : plainName "java/lang/Long" = true := by first | (simp [plainName, overriddenIn]; done) | decide +kernel
theorem ef_rm6 (m : MethodId) (y0 : Addr) (y1 : Int64) : entryFrame m #[(.ref y0), (.long y1)] 3 = mkF m 0 #[.val (.ref y0), .val (.long y1), .second] [] := by first | (simp [entryFrame, mkF, argsToLocals, Value.category]; done) | rfl
def Q6 (Z : State) (y0 : Addr) (y1 : Int64) (u0 : Value) (h0 : Heap) (n0 : Nat) (v : Option Value) (h : Heap) (L : List Loc) : Prop := v = none ∧ Fr n0 L ∧ Keep h0 h [y0] ∧ Exa Z h y0 "java/lang/Long"
set_option maxRecDepth 65536 in
set_option maxHeartbeats 40000000 in
theorem rm6 (l : Launch) (Z : State) (a0 : Array Value) (hw : ∀ d ∈ tables_1, d.before a0 Z = true) (ws : List Jvm.Cond) (y0 : Addr) (y1 : Int64) (u0 : Value) (h0 : Heap) (n0 : Nat) (Z0 : n0 ≤ h0.size) (E_y0 : Exa Z h0 y0 "java/lang/Long") (n_y0 : n0 ≤ y0) (F_0 : Fld Z h0 y0 "java/lang/Long" "value" "J" u0) :
    MetFree l mn3 (head1 (Jvm.Cond.code mn3 jdk_35_method_26_code 3 none :: ws) ({ frames := 2, cells := 0, slots := 0, locals := 24 } : Room)) (fun a U => a = #[(.ref y0), (.long y1)] ∧ Z.Warmed39 U.vm ∧ U.heap = h0) (fun _ _ _ _ _ => True) (fun _ U o U' => ∃ v L, o = .returned v ∧ Q6 Z y0 y1 u0 h0 n0 v U'.heap L ∧ FrameEnd U o U' L ({ frames := 2, cells := 0, slots := 0, locals := 24 } : Room).cells ({ frames := 2, cells := 0, slots := 0, locals := 24 } : Room).slots) := by
  refine MetFree.of_bodySF (plainFor_of_name pn_2) hisR ?_
  intro p e s m args below meth c s₁ Bd hml0 hP hK
  obtain ⟨rfl, hZ, hh⟩ := hP
  have hx := Bd.exec
  have hby := Bd.bytes
  have hml : c.maxLocals = 3 := hml0
  have hown : s.vm.findClass "java/lang/Long" = some m.cls := findClass_of_methodNamed Bd.named
  have hnm := (name_of_methodNamed Bd.named Bd.method).1
  have X0 : Stand p l e ({ frames := 2, cells := 0, slots := 0, locals := 24 } : Room) s m #[(.ref y0), (.long y1)] below meth c s₁ [] 0 0 := Stand.of_body Bd
  have e0 : s₁.heap = h0 := by rw [← hh, Bd.state]; rfl
  have N0 := Fr.nil n0
  show own_Ends p e below s (Q6 Z y0 y1 u0 h0 n0) _ _ s₁ _
  rw [ef_rm6 m y0 y1]
  refine own_go (T' := s₁) (f' := (mkF m 1 #[.val (.ref y0), .val (.long y1), .second] [(.ref y0)])) (fun _ k => XS.aloadN X0.here hx rfl (hb hby d6_0) rfl rfl k) ?_
  obtain ⟨_, _, ⟨T1, L1, k1, n1⟩, -, X1, ⟨Lc1, hQ1, l1, y1, z1⟩, st1⟩ := X0.specialBack hx (y := mn2) rfl hown (mvT hZ (ow43 hw)) (mvT hZ (ow44 hw)) (mvT hZ (ow48 hw)) (by decide) (backOf (W := 0) (rm7 l Z a0 hw [] y0 h0 n0 Z0) hZ (ow48 hw) (ow47 hw) (by decide) (by decide)) (g := (mkF m 1 #[.val (.ref y0), .val (.long y1), .second] [(.ref y0)])) rfl (by rw [hml]; rfl) (Steps.refl _) (a := y0) (argsL := []) (rest := []) (lenOf pd0 rfl) rfl (by show 2 * 0 + _ ≤ _; exact Nat.le_of_eq rfl) (hb hby d6_1) (fun _ _ => ⟨rfl, e0, (by decide : 0 + 0 ≤ _), (by decide : 0 + 0 ≤ _)⟩)
  dsimp only [Pt.U, Pt.locs, Pt.cells, Pt.slots] at X1 l1 y1 z1 st1 hQ1
  subst l1 y1 z1
  obtain ⟨rfl, N1q, hh1⟩ := hQ1
  have N1 := Fr.app N0 N1q
  refine own_go (T' := T1) (f' := (mkF m 6 #[.val (.ref y0), .val (.long y1), .second] [(.long y1), (.ref y0)])) (fun _ k => st1.trans (XS.aloadN X1.here hx rfl (hb hby d6_4) rfl rfl (XS.lloadN X1.here hx rfl (hb hby d6_5) rfl k))) ?_
  obtain ⟨T2, h2, X2, e2, W2, st2⟩ := putF X1 hx hZ hown (host := "") (Or.inl (ow50 hw)) Via.refl hh1 F_0 E_y0 (Or.inr ⟨(ow51 hw), rfl, hnm⟩) (ow38 hw) (ty := .long) (by decide) rfl rfl (g := (mkF m 6 #[.val (.ref y0), .val (.long y1), .second] [(.long y1), (.ref y0)])) rfl rfl (hb hby d6_6)
  have Fw2 := Fld.same W2 F_0
  have K2 : Keep h0 h2 [y0] := (Keep.refl h0 [y0]).wr W2 (Or.inl (List.mem_of_getElem? (i := 0) rfl))
  have N2 := Fr.snoc X2 N1 n_y0
  refine own_go (T' := T2) (f' := (mkF m 9 #[.val (.ref y0), .val (.long y1), .second] [])) (fun _ k => st2 _ k) ?_
  refine own_ret X2 (v := none) (fun _ => rfl) Bd.notSynchronized (fun fs hr => X2.returnOut hx Bd.returns (hb hby d6_9) hr) ?_ (by decide) (by decide)
  show Q6 Z y0 y1 u0 h0 n0 _ T2.heap _
  rw [e2]
  exact ⟨rfl, N2, K2, (E_y0.wr W2)⟩
theorem pd2 : parseMethodDescriptor "(J)V" = some ⟨[.long], none⟩ := by decide +kernel
theorem d4_0 : decode jdk_35_method_24_code 0 = .ok (.sipush 128, 3) := by decide +kernel
theorem d4_3 : decode jdk_35_method_24_code 3 = .ok (.istore_n 2, 1) := by decide +kernel
theorem d4_4 : decode jdk_35_method_24_code 4 = .ok (.lload_n 0, 1) := by decide +kernel
theorem d4_5 : decode jdk_35_method_24_code 5 = .ok (.ldc2_w 230, 3) := by decide +kernel
theorem d4_8 : decode jdk_35_method_24_code 8 = .ok (.lcmp, 1) := by decide +kernel
theorem d4_9 : decode jdk_35_method_24_code 9 = .ok (.ifCond .lt 22, 3) := by decide +kernel
theorem d4_12 : decode jdk_35_method_24_code 12 = .ok (.lload_n 0, 1) := by decide +kernel
theorem d4_13 : decode jdk_35_method_24_code 13 = .ok (.ldc2_w 232, 3) := by decide +kernel
theorem d4_16 : decode jdk_35_method_24_code 16 = .ok (.lcmp, 1) := by decide +kernel
theorem d4_17 : decode jdk_35_method_24_code 17 = .ok (.ifCond .gt 14, 3) := by decide +kernel
theorem d4_20 : decode jdk_35_method_24_code 20 = .ok (.getstatic 234, 3) := by decide +kernel
theorem d4_23 : decode jdk_35_method_24_code 23 = .ok (.lload_n 0, 1) := by decide +kernel
theorem d4_24 : decode jdk_35_method_24_code 24 = .ok (.l2i, 1) := by decide +kernel
theorem d4_25 : decode jdk_35_method_24_code 25 = .ok (.sipush 128, 3) := by decide +kernel
theorem d4_28 : decode jdk_35_method_24_code 28 = .ok (.iadd, 1) := by decide +kernel
theorem d4_29 : decode jdk_35_method_24_code 29 = .ok (.aaload, 1) := by decide +kernel
theorem d4_30 : decode jdk_35_method_24_code 30 = .ok (.areturn, 1) := by decide +kernel
theorem d4_31 : decode jdk_35_method_24_code 31 = .ok (.new 1, 3) := by decide +kernel
theorem d4_34 : decode jdk_35_method_24_code 34 = .ok (.dup, 1) := by decide +kernel
theorem d4_35 : decode jdk_35_method_24_code 35 = .ok (.lload_n 0, 1) := by decide +kernel
theorem d4_36 : decode jdk_35_method_24_code 36 = .ok (.invokespecial 240, 3) := by decide +kernel
theorem d4_39 : decode jdk_35_method_24_code 39 = .ok (.areturn, 1) := by decide +kernel
theorem ef_rm4 (m : MethodId) (y0 : Int64) : entryFrame m #[(.long y0)] 3 = mkF m 0 #[.val (.long y0), .second, .unset] [] := by first | (simp [entryFrame, mkF, argsToLocals, Value.category]; done) | rfl
def Q4 (Z : State) (y0 : Int64) (wc : Addr) (clc : Cell) (h0 : Heap) (n0 : Nat) (v : Option Value) (h : Heap) (L : List Loc) : Prop := ∃ y : Addr, v = some (.ref y) ∧ Fr n0 L ∧ Keep h0 h [] ∧ Exa Z h y "java/lang/Long"
set_option maxRecDepth 65536 in
set_option maxHeartbeats 40000000 in
theorem rm4 (l : Launch) (Z : State) (a0 : Array Value) (hw : ∀ d ∈ tables_1, d.before a0 Z = true) (ws : List Jvm.Cond) (y0 : Int64) (wc : Addr) (clc : Cell) (h0 : Heap) (n0 : Nat) (Z0 : n0 ≤ h0.size) (S_c : Sta Z h0 "java/lang/Long$LongCache" "cache" "[Ljava/lang/Long;" (.ref wc)) (A_c : Arr Z h0 wc clc (.object "java/lang/Long")) (hsz : clc.slots.size = 256) (hel : ∀ j : Int32, ¬ (j < 0 ∨ 256 ≤ j.toNatClampNeg) → ∃ y : Addr, clc.slots[j.toNatClampNeg]? = some (.ref y) ∧ Exa Z h0 y "java/lang/Long") :
    MetFree l mn4 (head1 (Jvm.Cond.code mn4 jdk_35_method_24_code 3 (some (.object "java/lang/Long")) :: ws) ({ frames := 3, cells := 1, slots := 1, locals := 39 } : Room)) (fun a U => a = #[(.long y0)] ∧ Z.Warmed39 U.vm ∧ U.heap = h0) (fun _ _ _ _ _ => True) (fun _ U o U' => ∃ v L, o = .returned v ∧ Q4 Z y0 wc clc h0 n0 v U'.heap L ∧ FrameEnd U o U' L ({ frames := 3, cells := 1, slots := 1, locals := 39 } : Room).cells ({ frames := 3, cells := 1, slots := 1, locals := 39 } : Room).slots) := by
  refine MetFree.of_bodySF (plainFor_of_name pn_2) hisR ?_
  intro p e s m args below meth c s₁ Bd hml0 hP hK
  obtain ⟨rfl, hZ, hh⟩ := hP
  have hx := Bd.exec
  have hby := Bd.bytes
  have hml : c.maxLocals = 3 := hml0
  have hown : s.vm.findClass "java/lang/Long" = some m.cls := findClass_of_methodNamed Bd.named
  have hnm := (name_of_methodNamed Bd.named Bd.method).1
  have X0 : Stand p l e ({ frames := 3, cells := 1, slots := 1, locals := 39 } : Room) s m #[(.long y0)] below meth c s₁ [] 0 0 := Stand.of_body Bd
  have e0 : s₁.heap = h0 := by rw [← hh, Bd.state]; rfl
  have N0 := Fr.nil n0
  show own_Ends p e below s (Q4 Z y0 wc clc h0 n0) _ _ s₁ _
  rw [ef_rm4 m y0]
  refine own_go (T' := s₁) (f' := (mkF m 9 #[.val (.long y0), .second, .val (.int (128 : Int32))] [(.int (lcmpW y0 (-128 : Int64)))])) (fun _ k => XS.sipush X0.here hx rfl (hb hby d4_0) (XS.istoreN X0.here hx rfl (hb hby d4_3) rfl (l' := #[.val (.long y0), .second, .val (.int (128 : Int32))]) rfl (XS.lloadN X0.here hx rfl (hb hby d4_4) rfl (X0.ldc2Long hx hown (mvT hZ (ow26 hw)) (g := (mkF m 5 #[.val (.long y0), .second, .val (.int (128 : Int32))] [(.long y0)])) rfl (hb hby d4_5) _ (XS.lcmp X0.here hx rfl (hb hby d4_8) rfl k))))) ?_
  by_cases hc1 : y0 < (-128 : Int64)
  · refine own_go (T' := s₁) (f' := (mkF m 31 #[.val (.long y0), .second, .val (.int (128 : Int32))] [])) (fun _ k => XS.ifYes X0.here hx rfl (pc0 := 9) (pc' := 31) rfl (hb hby d4_9) rfl ((if0 _ _).trans (tlt ((own_lc_lt (a := y0) (b := (-128 : Int64))).mpr hc1)).1) (by decide) (by decide) k) ?_
    obtain ⟨T2, h2, X2, e2, E2, A2, D2, -, st2⟩ := newO X0 hx hZ hown (ow37 hw) (ow38 hw) (ow24 hw) e0 (g := (mkF m 31 #[.val (.long y0), .second, .val (.int (128 : Int32))] [])) rfl (hb hby d4_31) (by decide) (by decide)
    obtain ⟨b2, g_b2⟩ : ∃ z, z = h0.size := ⟨_, rfl⟩
    have sg_b2 : h0.size ≤ b2 := Nat.le_of_eq g_b2.symm
    rw [← g_b2] at A2 D2 st2
    have n_b2 : n0 ≤ b2 := Nat.le_trans Z0 (Nat.le_of_eq g_b2.symm)
    have sz_b2 : h0.size ≤ b2 := Nat.le_trans (Keep.refl h0 []).1 (Nat.le_of_eq g_b2.symm)
    have K2 : Keep h0 h2 [] := (Keep.refl h0 []).ext E2
    have F_value_b2 : Fld Z h2 b2 "java/lang/Long" "value" "J" (.long (0 : Int64)) := D2 (Or.inr (ow51 hw)) (ty := .long) (by decide)
    refine own_go (T' := T2) (f' := (mkF m 36 #[.val (.long y0), .second, .val (.int (128 : Int32))] [(.long y0), (.ref b2), (.ref b2)])) (fun _ k => st2 _ (XS.dup X2.here hx rfl (hb hby d4_34) rfl rfl (XS.lloadN X2.here hx rfl (hb hby d4_35) rfl k))) ?_
    obtain ⟨_, _, ⟨T3, L3, k3, n3⟩, -, X3, ⟨Lc3, hQ3, l3, y3, z3⟩, st3⟩ := X2.specialBack hx (y := mn3) rfl hown (mvT hZ (ow39 hw)) (mvT hZ (ow40 hw)) (mvT hZ (ow42 hw)) (by decide) (backOf (W := 1) (rm6 l Z a0 hw [] b2 y0 _ h2 n0 (Nat.le_trans Z0 E2.1) A2 n_b2 F_value_b2) hZ (ow42 hw) (ow24 hw) (by decide) (by decide)) (g := (mkF m 36 #[.val (.long y0), .second, .val (.int (128 : Int32))] [(.long y0), (.ref b2), (.ref b2)])) rfl (by rw [hml]; rfl) (Steps.refl _) (a := b2) (argsL := [(.long y0)]) (rest := [(.ref b2)]) (lenOf pd2 rfl) rfl (by show 2 * 0 + _ ≤ _; exact Nat.le_of_eq rfl) (hb hby d4_36) (fun _ _ => ⟨rfl, e2, (by decide : 1 + 0 ≤ _), (by decide : 1 + 0 ≤ _)⟩)
    dsimp only [Pt.U, Pt.locs, Pt.cells, Pt.slots] at X3 l3 y3 z3 st3 hQ3
    subst l3 y3 z3
    obtain ⟨rfl, N3q, K3, gE3⟩ := hQ3
    have N3 := Fr.app N0 N3q
    have KK3 : Keep h0 T3.heap [] := Keep.trans K2 K3 (allS (Or.inr sz_b2) all0)
    refine own_go (T' := T3) (f' := (mkF m 39 #[.val (.long y0), .second, .val (.int (128 : Int32))] [(.ref b2)])) (fun _ k => st3.trans k) ?_
    refine own_ret X3 (v := some (.ref b2)) (fun h => by rw [Bd.returns] at h; cases h) Bd.notSynchronized (fun fs hr => own_retA X3 hx Bd.returns rfl rfl (hb hby d4_39) hr) ?_ (by decide) (by decide)
    show Q4 Z y0 wc clc h0 n0 _ T3.heap _
    exact ⟨_, rfl, N3, KK3, gE3⟩
  · refine own_go (T' := s₁) (f' := (mkF m 17 #[.val (.long y0), .second, .val (.int (128 : Int32))] [(.int (lcmpW y0 (127 : Int64)))])) (fun _ k => XS.ifNo X0.here hx rfl (hb hby d4_9) rfl ((if0 _ _).trans (flt ((not_congr (own_lc_lt (a := y0) (b := (-128 : Int64)))).mpr hc1)).1) (XS.lloadN X0.here hx rfl (hb hby d4_12) rfl (X0.ldc2Long hx hown (mvT hZ (ow27 hw)) (g := (mkF m 13 #[.val (.long y0), .second, .val (.int (128 : Int32))] [(.long y0)])) rfl (hb hby d4_13) _ (XS.lcmp X0.here hx rfl (hb hby d4_16) rfl k)))) ?_
    by_cases hc4 : (127 : Int64) < y0
    · refine own_go (T' := s₁) (f' := (mkF m 31 #[.val (.long y0), .second, .val (.int (128 : Int32))] [])) (fun _ k => XS.ifYes X0.here hx rfl (pc0 := 17) (pc' := 31) rfl (hb hby d4_17) rfl ((if0 _ _).trans (tlt ((own_lc_gt (a := y0) (b := (127 : Int64))).mpr hc4)).2.2.1) (by decide) (by decide) k) ?_
      obtain ⟨T5, h5, X5, e5, E5, A5, D5, -, st5⟩ := newO X0 hx hZ hown (ow37 hw) (ow38 hw) (ow24 hw) e0 (g := (mkF m 31 #[.val (.long y0), .second, .val (.int (128 : Int32))] [])) rfl (hb hby d4_31) (by decide) (by decide)
      obtain ⟨b5, g_b5⟩ : ∃ z, z = h0.size := ⟨_, rfl⟩
      have sg_b5 : h0.size ≤ b5 := Nat.le_of_eq g_b5.symm
      rw [← g_b5] at A5 D5 st5
      have n_b5 : n0 ≤ b5 := Nat.le_trans Z0 (Nat.le_of_eq g_b5.symm)
      have sz_b5 : h0.size ≤ b5 := Nat.le_trans (Keep.refl h0 []).1 (Nat.le_of_eq g_b5.symm)
      have K5 : Keep h0 h5 [] := (Keep.refl h0 []).ext E5
      have F_value_b5 : Fld Z h5 b5 "java/lang/Long" "value" "J" (.long (0 : Int64)) := D5 (Or.inr (ow51 hw)) (ty := .long) (by decide)
      refine own_go (T' := T5) (f' := (mkF m 36 #[.val (.long y0), .second, .val (.int (128 : Int32))] [(.long y0), (.ref b5), (.ref b5)])) (fun _ k => st5 _ (XS.dup X5.here hx rfl (hb hby d4_34) rfl rfl (XS.lloadN X5.here hx rfl (hb hby d4_35) rfl k))) ?_
      obtain ⟨_, _, ⟨T6, L6, k6, n6⟩, -, X6, ⟨Lc6, hQ6, l6, y6, z6⟩, st6⟩ := X5.specialBack hx (y := mn3) rfl hown (mvT hZ (ow39 hw)) (mvT hZ (ow40 hw)) (mvT hZ (ow42 hw)) (by decide) (backOf (W := 1) (rm6 l Z a0 hw [] b5 y0 _ h5 n0 (Nat.le_trans Z0 E5.1) A5 n_b5 F_value_b5) hZ (ow42 hw) (ow24 hw) (by decide) (by decide)) (g := (mkF m 36 #[.val (.long y0), .second, .val (.int (128 : Int32))] [(.long y0), (.ref b5), (.ref b5)])) rfl (by rw [hml]; rfl) (Steps.refl _) (a := b5) (argsL := [(.long y0)]) (rest := [(.ref b5)]) (lenOf pd2 rfl) rfl (by show 2 * 0 + _ ≤ _; exact Nat.le_of_eq rfl) (hb hby d4_36) (fun _ _ => ⟨rfl, e5, (by decide : 1 + 0 ≤ _), (by decide : 1 + 0 ≤ _)⟩)
      dsimp only [Pt.U, Pt.locs, Pt.cells, Pt.slots] at X6 l6 y6 z6 st6 hQ6
      subst l6 y6 z6
      obtain ⟨rfl, N6q, K6, gE6⟩ := hQ6
      have N6 := Fr.app N0 N6q
      have KK6 : Keep h0 T6.heap [] := Keep.trans K5 K6 (allS (Or.inr sz_b5) all0)
      refine own_go (T' := T6) (f' := (mkF m 39 #[.val (.long y0), .second, .val (.int (128 : Int32))] [(.ref b5)])) (fun _ k => st6.trans k) ?_
      refine own_ret X6 (v := some (.ref b5)) (fun h => by rw [Bd.returns] at h; cases h) Bd.notSynchronized (fun fs hr => own_retA X6 hx Bd.returns rfl rfl (hb hby d4_39) hr) ?_ (by decide) (by decide)
      show Q4 Z y0 wc clc h0 n0 _ T6.heap _
      exact ⟨_, rfl, N6, KK6, gE6⟩
    · refine own_go (T' := s₁) (f' := (mkF m 20 #[.val (.long y0), .second, .val (.int (128 : Int32))] [])) (fun _ k => XS.ifNo X0.here hx rfl (hb hby d4_17) rfl ((if0 _ _).trans (flt ((not_congr (own_lc_gt (a := y0) (b := (127 : Int64)))).mpr hc4)).2.2.1) k) ?_
      obtain ⟨T7, X7, e7, st7⟩ := getS2 X0 hx hZ hown (host := "") (Or.inl (ow28 hw)) Via.refl e0 S_c (g := (mkF m 20 #[.val (.long y0), .second, .val (.int (128 : Int32))] [])) rfl (hb hby d4_20)
      refine own_go (T' := T7) (f' := (mkF m 29 #[.val (.long y0), .second, .val (.int (128 : Int32))] [(.int ((y0.toInt32) + (128 : Int32))), (.ref wc)])) (fun _ k => st7 _ (XS.lloadN X7.here hx rfl (hb hby d4_23) rfl (XS.l2i X7.here hx rfl (hb hby d4_24) rfl (XS.sipush X7.here hx rfl (hb hby d4_25) (XS.iadd X7.here hx rfl (hb hby d4_28) rfl k))))) ?_
      have hpl := (Jvm.Free.LongBox.place_okL y0 hc1 hc4).1
      obtain ⟨ye, hye, Ey⟩ := hel ((y0.toInt32) + (128 : Int32)) hpl
      have hin : ¬ (((y0.toInt32) + (128 : Int32)) < 0 ∨ clc.slots.size ≤ (((y0.toInt32) + (128 : Int32))).toNatClampNeg) := by rw [hsz]; exact hpl
      refine own_go (T' := T7) (f' := (mkF m 30 #[.val (.long y0), .second, .val (.int (128 : Int32))] [(.ref ye)])) (fun _ k => X7.aaload hx (j := ((y0.toInt32) + (128 : Int32))) (v := (.ref ye)) (by rw [e7]; exact A_c.1) (State.isArrayOf_alike hZ.alike A_c.2.1) rfl A_c.2.2 hin hye (g := (mkF m 29 #[.val (.long y0), .second, .val (.int (128 : Int32))] [(.int ((y0.toInt32) + (128 : Int32))), (.ref wc)])) rfl rfl (hb hby d4_29) _ k) ?_
      refine own_ret X7 (v := some (.ref ye)) (fun h => by rw [Bd.returns] at h; cases h) Bd.notSynchronized (fun fs hr => own_retA X7 hx Bd.returns rfl rfl (hb hby d4_30) hr) ?_ (by decide) (by decide)
      show Q4 Z y0 wc clc h0 n0 _ T7.heap _
      rw [e7]
      exact ⟨_, rfl, N0, Keep.refl _ _, Ey⟩
theorem d5_0 : decode prog_85_method_2_code 0 = .ok (.aload_n 1, 1) := by decide +kernel
theorem d5_1 : decode prog_85_method_2_code 1 = .ok (.instanceof 8, 3) := by decide +kernel
theorem d5_4 : decode prog_85_method_2_code 4 = .ok (.ifCond .eq 60, 3) := by decide +kernel
theorem d5_64 : decode prog_85_method_2_code 64 = .ok (.iconst 0, 1) := by decide +kernel
theorem d5_65 : decode prog_85_method_2_code 65 = .ok (.ireturn, 1) := by decide +kernel
theorem ef_rm5n (m : MethodId) (y0 : Addr) : entryFrame m #[(.ref y0), .null] 3 = mkF m 0 #[.val (.ref y0), .val .null, .unset] [] := by first | (simp [entryFrame, mkF, argsToLocals, Value.category]; done) | rfl
def Q5n (Z : State) (y0 : Addr) (h0 : Heap) (n0 : Nat) (v : Option Value) (h : Heap) (L : List Loc) : Prop := v = some (.int (0 : Int32)) ∧ Fr n0 L ∧ h = h0
set_option maxRecDepth 65536 in
set_option maxHeartbeats 40000000 in
theorem rm5n (l : Launch) (Z : State) (a0 : Array Value) (hw : ∀ d ∈ tables_1, d.before a0 Z = true) (ws : List Jvm.Cond) (y0 : Addr) (h0 : Heap) (n0 : Nat) (Z0 : n0 ≤ h0.size) :
    MetFree l mn5 (head1 (Jvm.Cond.code mn5 prog_85_method_2_code 3 (some .boolean) :: ws) ({ frames := 0, cells := 0, slots := 0, locals := 0 } : Room)) (fun a U => a = #[(.ref y0), .null] ∧ Z.Warmed39 U.vm ∧ U.heap = h0) (fun _ _ _ _ _ => True) (fun _ U o U' => ∃ v L, o = .returned v ∧ Q5n Z y0 h0 n0 v U'.heap L ∧ FrameEnd U o U' L ({ frames := 0, cells := 0, slots := 0, locals := 0 } : Room).cells ({ frames := 0, cells := 0, slots := 0, locals := 0 } : Room).slots) := by
  refine MetFree.of_bodySF (plainFor_of_name pn_0) hisR ?_
  intro p e s m args below meth c s₁ Bd hml0 hP hK
  obtain ⟨rfl, hZ, hh⟩ := hP
  have hx := Bd.exec
  have hby := Bd.bytes
  have hml : c.maxLocals = 3 := hml0
  have hown : s.vm.findClass "com/example/aliquot/aliquot/Task" = some m.cls := findClass_of_methodNamed Bd.named
  have hnm := (name_of_methodNamed Bd.named Bd.method).1
  have X0 : Stand p l e ({ frames := 0, cells := 0, slots := 0, locals := 0 } : Room) s m #[(.ref y0), .null] below meth c s₁ [] 0 0 := Stand.of_body Bd
  have e0 : s₁.heap = h0 := by rw [← hh, Bd.state]; rfl
  have N0 := Fr.nil n0
  show own_Ends p e below s (Q5n Z y0 h0 n0) _ _ s₁ _
  rw [ef_rm5n m y0]
  refine own_go (T' := s₁) (f' := (mkF m 65 #[.val (.ref y0), .val .null, .unset] [(.int (0 : Int32))])) (fun _ k => XS.aloadN X0.here hx rfl (hb hby d5_0) rfl rfl (X0.instanceofNull hx (g := (mkF m 1 #[.val (.ref y0), .val .null, .unset] [.null])) rfl rfl (hb hby d5_1) _ (XS.ifYes X0.here hx rfl (pc0 := 4) (pc' := 64) rfl (hb hby d5_4) rfl ((if0 _ _).trans (teq (by decide : ((0 : Int32) = (0 : Int32)))).1) (by decide) (by decide) (XS.iconst X0.here hx rfl (hb hby d5_64) k)))) ?_
  refine own_ret X0 (v := some (.int (0 : Int32))) (fun h => by rw [Bd.returns] at h; cases h) Bd.notSynchronized (fun fs hr => retN X0 hx (t := .boolean) Bd.returns (by simp) (hb hby d5_65) hr) ?_ (by decide) (by decide)
  show Q5n Z y0 h0 n0 _ s₁.heap _
  exact ⟨rfl, N0, e0⟩
theorem ef_rm5l (m : MethodId) (y0 : Addr) (y1 : Addr) : entryFrame m #[(.ref y0), (.ref y1)] 3 = mkF m 0 #[.val (.ref y0), .val (.ref y1), .unset] [] := by first | (simp [entryFrame, mkF, argsToLocals, Value.category]; done) | rfl
def Q5l (Z : State) (y0 : Addr) (y1 : Addr) (h0 : Heap) (n0 : Nat) (v : Option Value) (h : Heap) (L : List Loc) : Prop := v = some (.int (0 : Int32)) ∧ Fr n0 L ∧ h = h0
set_option maxRecDepth 65536 in
set_option maxHeartbeats 40000000 in
theorem rm5l (l : Launch) (Z : State) (a0 : Array Value) (hw : ∀ d ∈ tables_1, d.before a0 Z = true) (ws : List Jvm.Cond) (y0 : Addr) (y1 : Addr) (h0 : Heap) (n0 : Nat) (Z0 : n0 ≤ h0.size) (E_y1 : Exa Z h0 y1 "java/lang/Long") :
    MetFree l mn5 (head1 (Jvm.Cond.code mn5 prog_85_method_2_code 3 (some .boolean) :: ws) ({ frames := 0, cells := 0, slots := 0, locals := 0 } : Room)) (fun a U => a = #[(.ref y0), (.ref y1)] ∧ Z.Warmed39 U.vm ∧ U.heap = h0) (fun _ _ _ _ _ => True) (fun _ U o U' => ∃ v L, o = .returned v ∧ Q5l Z y0 y1 h0 n0 v U'.heap L ∧ FrameEnd U o U' L ({ frames := 0, cells := 0, slots := 0, locals := 0 } : Room).cells ({ frames := 0, cells := 0, slots := 0, locals := 0 } : Room).slots) := by
  refine MetFree.of_bodySF (plainFor_of_name pn_0) hisR ?_
  intro p e s m args below meth c s₁ Bd hml0 hP hK
  obtain ⟨rfl, hZ, hh⟩ := hP
  have hx := Bd.exec
  have hby := Bd.bytes
  have hml : c.maxLocals = 3 := hml0
  have hown : s.vm.findClass "com/example/aliquot/aliquot/Task" = some m.cls := findClass_of_methodNamed Bd.named
  have hnm := (name_of_methodNamed Bd.named Bd.method).1
  have X0 : Stand p l e ({ frames := 0, cells := 0, slots := 0, locals := 0 } : Room) s m #[(.ref y0), (.ref y1)] below meth c s₁ [] 0 0 := Stand.of_body Bd
  have e0 : s₁.heap = h0 := by rw [← hh, Bd.state]; rfl
  have N0 := Fr.nil n0
  show own_Ends p e below s (Q5l Z y0 y1 h0 n0) _ _ s₁ _
  rw [ef_rm5l m y0 y1]
  refine own_go (T' := s₁) (f' := (mkF m 1 #[.val (.ref y0), .val (.ref y1), .unset] [(.ref y1)])) (fun _ k => XS.aloadN X0.here hx rfl (hb hby d5_0) rfl rfl k) ?_
  obtain ⟨T1, X1, e1, st1⟩ := instNo X0 hx hZ hown (ow35 hw) e0 E_y1 (own_noTask hw) (g := (mkF m 1 #[.val (.ref y0), .val (.ref y1), .unset] [(.ref y1)])) rfl rfl (hb hby d5_1)
  refine own_go (T' := T1) (f' := (mkF m 65 #[.val (.ref y0), .val (.ref y1), .unset] [(.int (0 : Int32))])) (fun _ k => st1 _ (XS.ifYes X1.here hx rfl (pc0 := 4) (pc' := 64) rfl (hb hby d5_4) rfl ((if0 _ _).trans (teq (by decide : ((0 : Int32) = (0 : Int32)))).1) (by decide) (by decide) (XS.iconst X1.here hx rfl (hb hby d5_64) k))) ?_
  refine own_ret X1 (v := some (.int (0 : Int32))) (fun h => by rw [Bd.returns] at h; cases h) Bd.notSynchronized (fun fs hr => retN X1 hx (t := .boolean) Bd.returns (by simp) (hb hby d5_65) hr) ?_ (by decide) (by decide)
  show Q5l Z y0 y1 h0 n0 _ T1.heap _
  exact ⟨rfl, N0, e1⟩
theorem d5_7 : decode prog_85_method_2_code 7 = .ok (.aload_n 1, 1) := by decide +kernel
theorem d5_8 : decode prog_85_method_2_code 8 = .ok (.checkcast 8, 3) := by decide +kernel
theorem d5_11 : decode prog_85_method_2_code 11 = .ok (.astore_n 2, 1) := by decide +kernel
theorem d5_12 : decode prog_85_method_2_code 12 = .ok (.aload_n 0, 1) := by decide +kernel
theorem d5_13 : decode prog_85_method_2_code 13 = .ok (.getfield 7, 3) := by decide +kernel
theorem d5_16 : decode prog_85_method_2_code 16 = .ok (.aload_n 2, 1) := by decide +kernel
theorem d5_17 : decode prog_85_method_2_code 17 = .ok (.getfield 7, 3) := by decide +kernel
theorem d5_20 : decode prog_85_method_2_code 20 = .ok (.lcmp, 1) := by decide +kernel
theorem d5_21 : decode prog_85_method_2_code 21 = .ok (.ifCond .ne 43, 3) := by decide +kernel
theorem d5_24 : decode prog_85_method_2_code 24 = .ok (.aload_n 0, 1) := by decide +kernel
theorem d5_25 : decode prog_85_method_2_code 25 = .ok (.getfield 13, 3) := by decide +kernel
theorem d5_28 : decode prog_85_method_2_code 28 = .ok (.aload_n 2, 1) := by decide +kernel
theorem d5_29 : decode prog_85_method_2_code 29 = .ok (.getfield 13, 3) := by decide +kernel
theorem d5_32 : decode prog_85_method_2_code 32 = .ok (.lcmp, 1) := by decide +kernel
theorem d5_33 : decode prog_85_method_2_code 33 = .ok (.ifCond .ne 31, 3) := by decide +kernel
theorem d5_36 : decode prog_85_method_2_code 36 = .ok (.aload_n 0, 1) := by decide +kernel
theorem d5_37 : decode prog_85_method_2_code 37 = .ok (.getfield 16, 3) := by decide +kernel
theorem d5_40 : decode prog_85_method_2_code 40 = .ok (.aload_n 2, 1) := by decide +kernel
theorem d5_41 : decode prog_85_method_2_code 41 = .ok (.getfield 16, 3) := by decide +kernel
theorem d5_44 : decode prog_85_method_2_code 44 = .ok (.lcmp, 1) := by decide +kernel
theorem d5_45 : decode prog_85_method_2_code 45 = .ok (.ifCond .ne 19, 3) := by decide +kernel
theorem d5_48 : decode prog_85_method_2_code 48 = .ok (.aload_n 0, 1) := by decide +kernel
theorem d5_49 : decode prog_85_method_2_code 49 = .ok (.getfield 19, 3) := by decide +kernel
theorem d5_52 : decode prog_85_method_2_code 52 = .ok (.aload_n 2, 1) := by decide +kernel
theorem d5_53 : decode prog_85_method_2_code 53 = .ok (.getfield 19, 3) := by decide +kernel
theorem d5_56 : decode prog_85_method_2_code 56 = .ok (.lcmp, 1) := by decide +kernel
theorem d5_57 : decode prog_85_method_2_code 57 = .ok (.ifCond .ne 7, 3) := by decide +kernel
theorem d5_60 : decode prog_85_method_2_code 60 = .ok (.iconst 1, 1) := by decide +kernel
theorem d5_61 : decode prog_85_method_2_code 61 = .ok (.goto 4, 3) := by decide +kernel
theorem ef_rm5t (m : MethodId) (y0 : Addr) (y1 : Addr) : entryFrame m #[(.ref y0), (.ref y1)] 3 = mkF m 0 #[.val (.ref y0), .val (.ref y1), .unset] [] := by first | (simp [entryFrame, mkF, argsToLocals, Value.category]; done) | rfl
def Q5t (Z : State) (y0 : Addr) (y1 : Addr) (u0 : Int64) (u1 : Int64) (u2 : Int64) (u3 : Int64) (v0 : Int64) (v1 : Int64) (v2 : Int64) (v3 : Int64) (h0 : Heap) (n0 : Nat) (v : Option Value) (h : Heap) (L : List Loc) : Prop := v = some (.int (own_b2i (u0 = v0 ∧ u1 = v1 ∧ u2 = v2 ∧ u3 = v3))) ∧ Fr n0 L ∧ h = h0
set_option maxRecDepth 65536 in
set_option maxHeartbeats 40000000 in
theorem rm5t (l : Launch) (Z : State) (a0 : Array Value) (hw : ∀ d ∈ tables_1, d.before a0 Z = true) (ws : List Jvm.Cond) (y0 : Addr) (y1 : Addr) (u0 : Int64) (u1 : Int64) (u2 : Int64) (u3 : Int64) (v0 : Int64) (v1 : Int64) (v2 : Int64) (v3 : Int64) (h0 : Heap) (n0 : Nat) (Z0 : n0 ≤ h0.size) (E_y1 : Exa Z h0 y1 "com/example/aliquot/aliquot/Task") (F_u0 : Fld Z h0 y0 "com/example/aliquot/aliquot/Task" "number" "J" (.long u0)) (F_u1 : Fld Z h0 y0 "com/example/aliquot/aliquot/Task" "firstRecord" "J" (.long u1)) (F_u2 : Fld Z h0 y0 "com/example/aliquot/aliquot/Task" "lastRecord" "J" (.long u2)) (F_u3 : Fld Z h0 y0 "com/example/aliquot/aliquot/Task" "firstWithoutIdentifier" "J" (.long u3)) (F_v0 : Fld Z h0 y1 "com/example/aliquot/aliquot/Task" "number" "J" (.long v0)) (F_v1 : Fld Z h0 y1 "com/example/aliquot/aliquot/Task" "firstRecord" "J" (.long v1)) (F_v2 : Fld Z h0 y1 "com/example/aliquot/aliquot/Task" "lastRecord" "J" (.long v2)) (F_v3 : Fld Z h0 y1 "com/example/aliquot/aliquot/Task" "firstWithoutIdentifier" "J" (.long v3)) :
    MetFree l mn5 (head1 (Jvm.Cond.code mn5 prog_85_method_2_code 3 (some .boolean) :: ws) ({ frames := 0, cells := 0, slots := 0, locals := 0 } : Room)) (fun a U => a = #[(.ref y0), (.ref y1)] ∧ Z.Warmed39 U.vm ∧ U.heap = h0) (fun _ _ _ _ _ => True) (fun _ U o U' => ∃ v L, o = .returned v ∧ Q5t Z y0 y1 u0 u1 u2 u3 v0 v1 v2 v3 h0 n0 v U'.heap L ∧ FrameEnd U o U' L ({ frames := 0, cells := 0, slots := 0, locals := 0 } : Room).cells ({ frames := 0, cells := 0, slots := 0, locals := 0 } : Room).slots) := by
  refine MetFree.of_bodySF (plainFor_of_name pn_0) hisR ?_
  intro p e s m args below meth c s₁ Bd hml0 hP hK
  obtain ⟨rfl, hZ, hh⟩ := hP
  have hx := Bd.exec
  have hby := Bd.bytes
  have hml : c.maxLocals = 3 := hml0
  have hown : s.vm.findClass "com/example/aliquot/aliquot/Task" = some m.cls := findClass_of_methodNamed Bd.named
  have hnm := (name_of_methodNamed Bd.named Bd.method).1
  have X0 : Stand p l e ({ frames := 0, cells := 0, slots := 0, locals := 0 } : Room) s m #[(.ref y0), (.ref y1)] below meth c s₁ [] 0 0 := Stand.of_body Bd
  have e0 : s₁.heap = h0 := by rw [← hh, Bd.state]; rfl
  have N0 := Fr.nil n0
  show own_Ends p e below s (Q5t Z y0 y1 u0 u1 u2 u3 v0 v1 v2 v3 h0 n0) _ _ s₁ _
  rw [ef_rm5t m y0 y1]
  refine own_go (T' := s₁) (f' := (mkF m 1 #[.val (.ref y0), .val (.ref y1), .unset] [(.ref y1)])) (fun _ k => XS.aloadN X0.here hx rfl (hb hby d5_0) rfl rfl k) ?_
  obtain ⟨T1, X1, e1, st1⟩ := instY X0 hx hZ hown (ow35 hw) e0 (Ins.self E_y1) (g := (mkF m 1 #[.val (.ref y0), .val (.ref y1), .unset] [(.ref y1)])) rfl rfl (hb hby d5_1)
  refine own_go (T' := T1) (f' := (mkF m 8 #[.val (.ref y0), .val (.ref y1), .unset] [(.ref y1)])) (fun _ k => st1 _ (XS.ifNo X1.here hx rfl (hb hby d5_4) rfl ((if0 _ _).trans (feq (by decide : ¬ ((1 : Int32) = (0 : Int32)))).1) (XS.aloadN X1.here hx rfl (hb hby d5_7) rfl rfl k))) ?_
  obtain ⟨T2, X2, e2, st2⟩ := castY X1 hx hZ hown (ow35 hw) e1 (Ins.self E_y1) (g := (mkF m 8 #[.val (.ref y0), .val (.ref y1), .unset] [(.ref y1)])) rfl rfl (hb hby d5_8)
  refine own_go (T' := T2) (f' := (mkF m 13 #[.val (.ref y0), .val (.ref y1), .val (.ref y1)] [(.ref y0)])) (fun _ k => st2 _ (XS.astoreN X2.here hx rfl (hb hby d5_11) rfl rfl (l' := #[.val (.ref y0), .val (.ref y1), .val (.ref y1)]) rfl (XS.aloadN X2.here hx rfl (hb hby d5_12) rfl rfl k))) ?_
  obtain ⟨T3, X3, e3, st3⟩ := getF X2 hx hZ hown (host := "") (Or.inl (ow14 hw)) Via.refl e2 F_u0 (g := (mkF m 13 #[.val (.ref y0), .val (.ref y1), .val (.ref y1)] [(.ref y0)])) rfl rfl (hb hby d5_13)
  refine own_go (T' := T3) (f' := (mkF m 17 #[.val (.ref y0), .val (.ref y1), .val (.ref y1)] [(.ref y1), (.long u0)])) (fun _ k => st3 _ (XS.aloadN X3.here hx rfl (hb hby d5_16) rfl rfl k)) ?_
  obtain ⟨T4, X4, e4, st4⟩ := getF X3 hx hZ hown (host := "") (Or.inl (ow14 hw)) Via.refl e3 F_v0 (g := (mkF m 17 #[.val (.ref y0), .val (.ref y1), .val (.ref y1)] [(.ref y1), (.long u0)])) rfl rfl (hb hby d5_17)
  refine own_go (T' := T4) (f' := (mkF m 21 #[.val (.ref y0), .val (.ref y1), .val (.ref y1)] [(.int (lcmpW u0 v0))])) (fun _ k => st4 _ (XS.lcmp X4.here hx rfl (hb hby d5_20) rfl k)) ?_
  by_cases hc5 : u0 = v0
  · refine own_go (T' := T4) (f' := (mkF m 25 #[.val (.ref y0), .val (.ref y1), .val (.ref y1)] [(.ref y0)])) (fun _ k => XS.ifNo X4.here hx rfl (hb hby d5_21) rfl ((if0 _ _).trans (teq ((own_lc_eq (a := u0) (b := v0)).mpr hc5)).2) (XS.aloadN X4.here hx rfl (hb hby d5_24) rfl rfl k)) ?_
    obtain ⟨T6, X6, e6, st6⟩ := getF X4 hx hZ hown (host := "") (Or.inl (ow16 hw)) Via.refl e4 F_u1 (g := (mkF m 25 #[.val (.ref y0), .val (.ref y1), .val (.ref y1)] [(.ref y0)])) rfl rfl (hb hby d5_25)
    refine own_go (T' := T6) (f' := (mkF m 29 #[.val (.ref y0), .val (.ref y1), .val (.ref y1)] [(.ref y1), (.long u1)])) (fun _ k => st6 _ (XS.aloadN X6.here hx rfl (hb hby d5_28) rfl rfl k)) ?_
    obtain ⟨T7, X7, e7, st7⟩ := getF X6 hx hZ hown (host := "") (Or.inl (ow16 hw)) Via.refl e6 F_v1 (g := (mkF m 29 #[.val (.ref y0), .val (.ref y1), .val (.ref y1)] [(.ref y1), (.long u1)])) rfl rfl (hb hby d5_29)
    refine own_go (T' := T7) (f' := (mkF m 33 #[.val (.ref y0), .val (.ref y1), .val (.ref y1)] [(.int (lcmpW u1 v1))])) (fun _ k => st7 _ (XS.lcmp X7.here hx rfl (hb hby d5_32) rfl k)) ?_
    by_cases hc8 : u1 = v1
    · refine own_go (T' := T7) (f' := (mkF m 37 #[.val (.ref y0), .val (.ref y1), .val (.ref y1)] [(.ref y0)])) (fun _ k => XS.ifNo X7.here hx rfl (hb hby d5_33) rfl ((if0 _ _).trans (teq ((own_lc_eq (a := u1) (b := v1)).mpr hc8)).2) (XS.aloadN X7.here hx rfl (hb hby d5_36) rfl rfl k)) ?_
      obtain ⟨T9, X9, e9, st9⟩ := getF X7 hx hZ hown (host := "") (Or.inl (ow18 hw)) Via.refl e7 F_u2 (g := (mkF m 37 #[.val (.ref y0), .val (.ref y1), .val (.ref y1)] [(.ref y0)])) rfl rfl (hb hby d5_37)
      refine own_go (T' := T9) (f' := (mkF m 41 #[.val (.ref y0), .val (.ref y1), .val (.ref y1)] [(.ref y1), (.long u2)])) (fun _ k => st9 _ (XS.aloadN X9.here hx rfl (hb hby d5_40) rfl rfl k)) ?_
      obtain ⟨T10, X10, e10, st10⟩ := getF X9 hx hZ hown (host := "") (Or.inl (ow18 hw)) Via.refl e9 F_v2 (g := (mkF m 41 #[.val (.ref y0), .val (.ref y1), .val (.ref y1)] [(.ref y1), (.long u2)])) rfl rfl (hb hby d5_41)
      refine own_go (T' := T10) (f' := (mkF m 45 #[.val (.ref y0), .val (.ref y1), .val (.ref y1)] [(.int (lcmpW u2 v2))])) (fun _ k => st10 _ (XS.lcmp X10.here hx rfl (hb hby d5_44) rfl k)) ?_
      by_cases hc11 : u2 = v2
      · refine own_go (T' := T10) (f' := (mkF m 49 #[.val (.ref y0), .val (.ref y1), .val (.ref y1)] [(.ref y0)])) (fun _ k => XS.ifNo X10.here hx rfl (hb hby d5_45) rfl ((if0 _ _).trans (teq ((own_lc_eq (a := u2) (b := v2)).mpr hc11)).2) (XS.aloadN X10.here hx rfl (hb hby d5_48) rfl rfl k)) ?_
        obtain ⟨T12, X12, e12, st12⟩ := getF X10 hx hZ hown (host := "") (Or.inl (ow20 hw)) Via.refl e10 F_u3 (g := (mkF m 49 #[.val (.ref y0), .val (.ref y1), .val (.ref y1)] [(.ref y0)])) rfl rfl (hb hby d5_49)
        refine own_go (T' := T12) (f' := (mkF m 53 #[.val (.ref y0), .val (.ref y1), .val (.ref y1)] [(.ref y1), (.long u3)])) (fun _ k => st12 _ (XS.aloadN X12.here hx rfl (hb hby d5_52) rfl rfl k)) ?_
        obtain ⟨T13, X13, e13, st13⟩ := getF X12 hx hZ hown (host := "") (Or.inl (ow20 hw)) Via.refl e12 F_v3 (g := (mkF m 53 #[.val (.ref y0), .val (.ref y1), .val (.ref y1)] [(.ref y1), (.long u3)])) rfl rfl (hb hby d5_53)
        refine own_go (T' := T13) (f' := (mkF m 57 #[.val (.ref y0), .val (.ref y1), .val (.ref y1)] [(.int (lcmpW u3 v3))])) (fun _ k => st13 _ (XS.lcmp X13.here hx rfl (hb hby d5_56) rfl k)) ?_
        by_cases hc14 : u3 = v3
        · refine own_go (T' := T13) (f' := (mkF m 65 #[.val (.ref y0), .val (.ref y1), .val (.ref y1)] [(.int (1 : Int32))])) (fun _ k => XS.ifNo X13.here hx rfl (hb hby d5_57) rfl ((if0 _ _).trans (teq ((own_lc_eq (a := u3) (b := v3)).mpr hc14)).2) (XS.iconst X13.here hx rfl (hb hby d5_60) (XS.goto X13.here hx rfl (pc0 := 61) (pc' := 65) rfl (hb hby d5_61) (by decide) (by decide) k))) ?_
          refine own_ret X13 (v := some (.int (1 : Int32))) (fun h => by rw [Bd.returns] at h; cases h) Bd.notSynchronized (fun fs hr => retN X13 hx (t := .boolean) Bd.returns (by simp) (hb hby d5_65) hr) ?_ (by decide) (by decide)
          show Q5t Z y0 y1 u0 u1 u2 u3 v0 v1 v2 v3 h0 n0 _ T13.heap _
          refine ⟨?_, N0, e13⟩
          simp [own_b2i, *]
        · refine own_go (T' := T13) (f' := (mkF m 65 #[.val (.ref y0), .val (.ref y1), .val (.ref y1)] [(.int (0 : Int32))])) (fun _ k => XS.ifYes X13.here hx rfl (pc0 := 57) (pc' := 64) rfl (hb hby d5_57) rfl ((if0 _ _).trans (feq ((not_congr (own_lc_eq (a := u3) (b := v3))).mpr hc14)).2) (by decide) (by decide) (XS.iconst X13.here hx rfl (hb hby d5_64) k)) ?_
          refine own_ret X13 (v := some (.int (0 : Int32))) (fun h => by rw [Bd.returns] at h; cases h) Bd.notSynchronized (fun fs hr => retN X13 hx (t := .boolean) Bd.returns (by simp) (hb hby d5_65) hr) ?_ (by decide) (by decide)
          show Q5t Z y0 y1 u0 u1 u2 u3 v0 v1 v2 v3 h0 n0 _ T13.heap _
          refine ⟨?_, N0, e13⟩
          simp [own_b2i, *]
      · refine own_go (T' := T10) (f' := (mkF m 65 #[.val (.ref y0), .val (.ref y1), .val (.ref y1)] [(.int (0 : Int32))])) (fun _ k => XS.ifYes X10.here hx rfl (pc0 := 45) (pc' := 64) rfl (hb hby d5_45) rfl ((if0 _ _).trans (feq ((not_congr (own_lc_eq (a := u2) (b := v2))).mpr hc11)).2) (by decide) (by decide) (XS.iconst X10.here hx rfl (hb hby d5_64) k)) ?_
        refine own_ret X10 (v := some (.int (0 : Int32))) (fun h => by rw [Bd.returns] at h; cases h) Bd.notSynchronized (fun fs hr => retN X10 hx (t := .boolean) Bd.returns (by simp) (hb hby d5_65) hr) ?_ (by decide) (by decide)
        show Q5t Z y0 y1 u0 u1 u2 u3 v0 v1 v2 v3 h0 n0 _ T10.heap _
        refine ⟨?_, N0, e10⟩
        simp [own_b2i, *]
    · refine own_go (T' := T7) (f' := (mkF m 65 #[.val (.ref y0), .val (.ref y1), .val (.ref y1)] [(.int (0 : Int32))])) (fun _ k => XS.ifYes X7.here hx rfl (pc0 := 33) (pc' := 64) rfl (hb hby d5_33) rfl ((if0 _ _).trans (feq ((not_congr (own_lc_eq (a := u1) (b := v1))).mpr hc8)).2) (by decide) (by decide) (XS.iconst X7.here hx rfl (hb hby d5_64) k)) ?_
      refine own_ret X7 (v := some (.int (0 : Int32))) (fun h => by rw [Bd.returns] at h; cases h) Bd.notSynchronized (fun fs hr => retN X7 hx (t := .boolean) Bd.returns (by simp) (hb hby d5_65) hr) ?_ (by decide) (by decide)
      show Q5t Z y0 y1 u0 u1 u2 u3 v0 v1 v2 v3 h0 n0 _ T7.heap _
      refine ⟨?_, N0, e7⟩
      simp [own_b2i, *]
  · refine own_go (T' := T4) (f' := (mkF m 65 #[.val (.ref y0), .val (.ref y1), .val (.ref y1)] [(.int (0 : Int32))])) (fun _ k => XS.ifYes X4.here hx rfl (pc0 := 21) (pc' := 64) rfl (hb hby d5_21) rfl ((if0 _ _).trans (feq ((not_congr (own_lc_eq (a := u0) (b := v0))).mpr hc5)).2) (by decide) (by decide) (XS.iconst X4.here hx rfl (hb hby d5_64) k)) ?_
    refine own_ret X4 (v := some (.int (0 : Int32))) (fun h => by rw [Bd.returns] at h; cases h) Bd.notSynchronized (fun fs hr => retN X4 hx (t := .boolean) Bd.returns (by simp) (hb hby d5_65) hr) ?_ (by decide) (by decide)
    show Q5t Z y0 y1 u0 u1 u2 u3 v0 v1 v2 v3 h0 n0 _ T4.heap _
    refine ⟨?_, N0, e4⟩
    simp [own_b2i, *]
theorem pd3 : parseMethodDescriptor "(JJJJ)V" = some ⟨[.long, .long, .long, .long], none⟩ := by decide +kernel
theorem pd1 : parseMethodDescriptor "(J)Ljava/lang/Long;" = some ⟨[.long], some (.object "java/lang/Long")⟩ := by decide +kernel
theorem pd4 : parseMethodDescriptor "(Ljava/lang/Object;)Z" = some ⟨[(.object "java/lang/Object")], some .boolean⟩ := by decide +kernel
theorem pn_1 : plainName "com/example/aliquot/aliquot/TaskEqualsPinLaw" = true := by first | (simp [plainName, overriddenIn]; done) | decide +kernel
theorem ef_rm0 (m : MethodId) (q0 : Int64) (q1 : Int64) (q2 : Int64) (q3 : Int64) (q4 : Int64) (p5 : Int32) : entryFrame m #[(.long q0), (.long q1), (.long q2), (.long q3), (.long q4), (.int p5)] maxLocals = mkF m 0 #[.val (.long q0), .second, .val (.long q1), .second, .val (.long q2), .second, .val (.long q3), .second, .val (.long q4), .second, .val (.int p5), .unset, .unset, .unset, .unset, .unset, .unset, .unset, .unset, .unset, .unset, .unset, .unset, .unset, .unset] [] := by first | (simp [entryFrame, mkF, argsToLocals, Value.category, maxLocals]; done) | rfl
def Q0 (Z : State) (q0 : Int64) (q1 : Int64) (q2 : Int64) (q3 : Int64) (q4 : Int64) (p5 : Int32) (wc : Addr) (clc : Cell) (h0 : Heap) (n0 : Nat) (v : Option Value) (h : Heap) (L : List Loc) : Prop := v = some (.int (1 : Int32)) ∧ Fr n0 L
set_option maxRecDepth 65536 in
set_option maxHeartbeats 40000000 in
theorem rm0 (l : Launch) (Z : State) (a0 : Array Value) (hw : ∀ d ∈ tables_1, d.before a0 Z = true) (ws : List Jvm.Cond) (q0 : Int64) (q1 : Int64) (q2 : Int64) (q3 : Int64) (q4 : Int64) (p5 : Int32) (wc : Addr) (clc : Cell) (h0 : Heap) (n0 : Nat) (Z0 : n0 ≤ h0.size) (S_c : Sta Z h0 "java/lang/Long$LongCache" "cache" "[Ljava/lang/Long;" (.ref wc)) (A_c : Arr Z h0 wc clc (.object "java/lang/Long")) (hsz : clc.slots.size = 256) (hel : ∀ j : Int32, ¬ (j < 0 ∨ 256 ≤ j.toNatClampNeg) → ∃ y : Addr, clc.slots[j.toNatClampNeg]? = some (.ref y) ∧ Exa Z h0 y "java/lang/Long") :
    MetFree l x (head1 (Jvm.Cond.code x code maxLocals ret :: ws) room_1) (fun a U => a = #[(.long q0), (.long q1), (.long q2), (.long q3), (.long q4), (.int p5)] ∧ Z.Warmed39 U.vm ∧ U.heap = h0) (fun _ _ _ _ _ => True) (fun _ U o U' => ∃ v L, o = .returned v ∧ Q0 Z q0 q1 q2 q3 q4 p5 wc clc h0 n0 v U'.heap L ∧ FrameEnd U o U' L room_1.cells room_1.slots) := by
  refine MetFree.of_bodySF (plainFor_of_name pn_1) hisR ?_
  intro p e s m args below meth c s₁ Bd hml0 hP hK
  obtain ⟨rfl, hZ, hh⟩ := hP
  have hx := Bd.exec
  have hby := Bd.bytes
  have hml : c.maxLocals = 25 := hml0
  have hown : s.vm.findClass "com/example/aliquot/aliquot/TaskEqualsPinLaw" = some m.cls := findClass_of_methodNamed Bd.named
  have hnm := (name_of_methodNamed Bd.named Bd.method).1
  have X0 : Stand p l e room_1 s m #[(.long q0), (.long q1), (.long q2), (.long q3), (.long q4), (.int p5)] below meth c s₁ [] 0 0 := Stand.of_body Bd
  have e0 : s₁.heap = h0 := by rw [← hh, Bd.state]; rfl
  have N0 := Fr.nil n0
  show own_Ends p e below s (Q0 Z q0 q1 q2 q3 q4 p5 wc clc h0 n0) _ _ s₁ _
  rw [ef_rm0 m q0 q1 q2 q3 q4 p5]
  refine own_go (T' := s₁) (f' := (mkF m 8 #[.val (.long q0), .second, .val (.long q1), .second, .val (.long q2), .second, .val (.long q3), .second, .val (.long q4), .second, .val (.int p5), .val (.int (((p5.toUInt32 >>> ((4 : Int32) &&& 31).toUInt32).toInt32) &&& (3 : Int32))), .unset, .unset, .unset, .unset, .unset, .unset, .unset, .unset, .unset, .unset, .unset, .unset, .unset] [])) (fun _ k => XS.iload X0.here hx rfl (hb hby at_0) rfl (XS.iconst X0.here hx rfl (hb hby at_2) (XS.iushr X0.here hx rfl (hb hby at_3) rfl (XS.iconst X0.here hx rfl (hb hby at_4) (XS.iand X0.here hx rfl (hb hby at_5) rfl (XS.istore X0.here hx rfl (hb hby at_6) rfl (l' := #[.val (.long q0), .second, .val (.long q1), .second, .val (.long q2), .second, .val (.long q3), .second, .val (.long q4), .second, .val (.int p5), .val (.int (((p5.toUInt32 >>> ((4 : Int32) &&& 31).toUInt32).toInt32) &&& (3 : Int32))), .unset, .unset, .unset, .unset, .unset, .unset, .unset, .unset, .unset, .unset, .unset, .unset, .unset]) rfl k)))))) ?_
  refine own_go (T' := s₁) (f' := (mkF m 12 #[.val (.long q0), .second, .val (.long q1), .second, .val (.long q2), .second, .val (.long q3), .second, .val (.long q4), .second, .val (.int p5), .val (.int (((p5.toUInt32 >>> ((4 : Int32) &&& 31).toUInt32).toInt32) &&& (3 : Int32))), .unset, .unset, .unset, .unset, .unset, .unset, .unset, .unset, .unset, .unset, .unset, .unset, .unset] [(.int (p5 &&& (1 : Int32)))])) (fun _ k => XS.iload X0.here hx rfl (hb hby at_8) rfl (XS.iconst X0.here hx rfl (hb hby at_10) (XS.iand X0.here hx rfl (hb hby at_11) rfl k))) ?_
  refine own_go (T' := s₁) (f' := (mkF m 23 #[.val (.long q0), .second, .val (.long q1), .second, .val (.long q2), .second, .val (.long q3), .second, .val (.long q4), .second, .val (.int p5), .val (.int (((p5.toUInt32 >>> ((4 : Int32) &&& 31).toUInt32).toInt32) &&& (3 : Int32))), .unset, .unset, .unset, .unset, .unset, .unset, .unset, .unset, .unset, .unset, .unset, .unset, .unset] [(.long (own_sel ((p5 &&& (1 : Int32)) = (0 : Int32)) q0 (q0 + q4)))])) (fun _ k => ?_) ?_
  · by_cases hm1 : (p5 &&& (1 : Int32)) = (0 : Int32)
    · rw [(own_sel_t hm1 : (own_sel ((p5 &&& (1 : Int32)) = (0 : Int32)) q0 (q0 + q4)) = q0)] at k
      show Steps p.tables e below (s₁.setTop (mkF m 12 #[.val (.long q0), .second, .val (.long q1), .second, .val (.long q2), .second, .val (.long q3), .second, .val (.long q4), .second, .val (.int p5), .val (.int (((p5.toUInt32 >>> ((4 : Int32) &&& 31).toUInt32).toInt32) &&& (3 : Int32))), .unset, .unset, .unset, .unset, .unset, .unset, .unset, .unset, .unset, .unset, .unset, .unset, .unset] [(.int (p5 &&& (1 : Int32)))])) _
      refine XS.ifYes X0.here hx rfl (pc0 := 12) (pc' := 22) rfl (hb hby at_12) rfl ((if0 _ _).trans (teq hm1).1) (by decide) (by decide) (XS.lloadN X0.here hx rfl (hb hby at_22) rfl ?_)
      show Steps p.tables e below (s₁.setTop (mkF m 23 #[.val (.long q0), .second, .val (.long q1), .second, .val (.long q2), .second, .val (.long q3), .second, .val (.long q4), .second, .val (.int p5), .val (.int (((p5.toUInt32 >>> ((4 : Int32) &&& 31).toUInt32).toInt32) &&& (3 : Int32))), .unset, .unset, .unset, .unset, .unset, .unset, .unset, .unset, .unset, .unset, .unset, .unset, .unset] [(.long q0)])) _
      exact k
    · rw [(own_sel_f hm1 : (own_sel ((p5 &&& (1 : Int32)) = (0 : Int32)) q0 (q0 + q4)) = (q0 + q4))] at k
      show Steps p.tables e below (s₁.setTop (mkF m 12 #[.val (.long q0), .second, .val (.long q1), .second, .val (.long q2), .second, .val (.long q3), .second, .val (.long q4), .second, .val (.int p5), .val (.int (((p5.toUInt32 >>> ((4 : Int32) &&& 31).toUInt32).toInt32) &&& (3 : Int32))), .unset, .unset, .unset, .unset, .unset, .unset, .unset, .unset, .unset, .unset, .unset, .unset, .unset] [(.int (p5 &&& (1 : Int32)))])) _
      refine XS.ifNo X0.here hx rfl (hb hby at_12) rfl ((if0 _ _).trans (feq hm1).1) (XS.lloadN X0.here hx rfl (hb hby at_15) rfl (XS.lload X0.here hx rfl (hb hby at_16) rfl (XS.ladd X0.here hx rfl (hb hby at_18) rfl (XS.goto X0.here hx rfl (pc0 := 19) (pc' := 23) rfl (hb hby at_19) (by decide) (by decide) ?_))))
      show Steps p.tables e below (s₁.setTop (mkF m 23 #[.val (.long q0), .second, .val (.long q1), .second, .val (.long q2), .second, .val (.long q3), .second, .val (.long q4), .second, .val (.int p5), .val (.int (((p5.toUInt32 >>> ((4 : Int32) &&& 31).toUInt32).toInt32) &&& (3 : Int32))), .unset, .unset, .unset, .unset, .unset, .unset, .unset, .unset, .unset, .unset, .unset, .unset, .unset] [(.long (q0 + q4))])) _
      exact k
  refine own_go (T' := s₁) (f' := (mkF m 25 #[.val (.long q0), .second, .val (.long q1), .second, .val (.long q2), .second, .val (.long q3), .second, .val (.long q4), .second, .val (.int p5), .val (.int (((p5.toUInt32 >>> ((4 : Int32) &&& 31).toUInt32).toInt32) &&& (3 : Int32))), .val (.long (own_sel ((p5 &&& (1 : Int32)) = (0 : Int32)) q0 (q0 + q4))), .second, .unset, .unset, .unset, .unset, .unset, .unset, .unset, .unset, .unset, .unset, .unset] [])) (fun _ k => XS.lstore X0.here hx rfl (hb hby at_23) rfl (l' := #[.val (.long q0), .second, .val (.long q1), .second, .val (.long q2), .second, .val (.long q3), .second, .val (.long q4), .second, .val (.int p5), .val (.int (((p5.toUInt32 >>> ((4 : Int32) &&& 31).toUInt32).toInt32) &&& (3 : Int32))), .val (.long (own_sel ((p5 &&& (1 : Int32)) = (0 : Int32)) q0 (q0 + q4))), .second, .unset, .unset, .unset, .unset, .unset, .unset, .unset, .unset, .unset, .unset, .unset]) rfl k) ?_
  generalize hzn2 : (own_sel ((p5 &&& (1 : Int32)) = (0 : Int32)) q0 (q0 + q4)) = zn2
  refine own_go (T' := s₁) (f' := (mkF m 29 #[.val (.long q0), .second, .val (.long q1), .second, .val (.long q2), .second, .val (.long q3), .second, .val (.long q4), .second, .val (.int p5), .val (.int (((p5.toUInt32 >>> ((4 : Int32) &&& 31).toUInt32).toInt32) &&& (3 : Int32))), .val (.long zn2), .second, .unset, .unset, .unset, .unset, .unset, .unset, .unset, .unset, .unset, .unset, .unset] [(.int (p5 &&& (2 : Int32)))])) (fun _ k => XS.iload X0.here hx rfl (hb hby at_25) rfl (XS.iconst X0.here hx rfl (hb hby at_27) (XS.iand X0.here hx rfl (hb hby at_28) rfl k))) ?_
  refine own_go (T' := s₁) (f' := (mkF m 40 #[.val (.long q0), .second, .val (.long q1), .second, .val (.long q2), .second, .val (.long q3), .second, .val (.long q4), .second, .val (.int p5), .val (.int (((p5.toUInt32 >>> ((4 : Int32) &&& 31).toUInt32).toInt32) &&& (3 : Int32))), .val (.long zn2), .second, .unset, .unset, .unset, .unset, .unset, .unset, .unset, .unset, .unset, .unset, .unset] [(.long (own_sel ((p5 &&& (2 : Int32)) = (0 : Int32)) q1 (q1 + q4)))])) (fun _ k => ?_) ?_
  · by_cases hm2 : (p5 &&& (2 : Int32)) = (0 : Int32)
    · rw [(own_sel_t hm2 : (own_sel ((p5 &&& (2 : Int32)) = (0 : Int32)) q1 (q1 + q4)) = q1)] at k
      show Steps p.tables e below (s₁.setTop (mkF m 29 #[.val (.long q0), .second, .val (.long q1), .second, .val (.long q2), .second, .val (.long q3), .second, .val (.long q4), .second, .val (.int p5), .val (.int (((p5.toUInt32 >>> ((4 : Int32) &&& 31).toUInt32).toInt32) &&& (3 : Int32))), .val (.long zn2), .second, .unset, .unset, .unset, .unset, .unset, .unset, .unset, .unset, .unset, .unset, .unset] [(.int (p5 &&& (2 : Int32)))])) _
      refine XS.ifYes X0.here hx rfl (pc0 := 29) (pc' := 39) rfl (hb hby at_29) rfl ((if0 _ _).trans (teq hm2).1) (by decide) (by decide) (XS.lloadN X0.here hx rfl (hb hby at_39) rfl ?_)
      show Steps p.tables e below (s₁.setTop (mkF m 40 #[.val (.long q0), .second, .val (.long q1), .second, .val (.long q2), .second, .val (.long q3), .second, .val (.long q4), .second, .val (.int p5), .val (.int (((p5.toUInt32 >>> ((4 : Int32) &&& 31).toUInt32).toInt32) &&& (3 : Int32))), .val (.long zn2), .second, .unset, .unset, .unset, .unset, .unset, .unset, .unset, .unset, .unset, .unset, .unset] [(.long q1)])) _
      exact k
    · rw [(own_sel_f hm2 : (own_sel ((p5 &&& (2 : Int32)) = (0 : Int32)) q1 (q1 + q4)) = (q1 + q4))] at k
      show Steps p.tables e below (s₁.setTop (mkF m 29 #[.val (.long q0), .second, .val (.long q1), .second, .val (.long q2), .second, .val (.long q3), .second, .val (.long q4), .second, .val (.int p5), .val (.int (((p5.toUInt32 >>> ((4 : Int32) &&& 31).toUInt32).toInt32) &&& (3 : Int32))), .val (.long zn2), .second, .unset, .unset, .unset, .unset, .unset, .unset, .unset, .unset, .unset, .unset, .unset] [(.int (p5 &&& (2 : Int32)))])) _
      refine XS.ifNo X0.here hx rfl (hb hby at_29) rfl ((if0 _ _).trans (feq hm2).1) (XS.lloadN X0.here hx rfl (hb hby at_32) rfl (XS.lload X0.here hx rfl (hb hby at_33) rfl (XS.ladd X0.here hx rfl (hb hby at_35) rfl (XS.goto X0.here hx rfl (pc0 := 36) (pc' := 40) rfl (hb hby at_36) (by decide) (by decide) ?_))))
      show Steps p.tables e below (s₁.setTop (mkF m 40 #[.val (.long q0), .second, .val (.long q1), .second, .val (.long q2), .second, .val (.long q3), .second, .val (.long q4), .second, .val (.int p5), .val (.int (((p5.toUInt32 >>> ((4 : Int32) &&& 31).toUInt32).toInt32) &&& (3 : Int32))), .val (.long zn2), .second, .unset, .unset, .unset, .unset, .unset, .unset, .unset, .unset, .unset, .unset, .unset] [(.long (q1 + q4))])) _
      exact k
  refine own_go (T' := s₁) (f' := (mkF m 42 #[.val (.long q0), .second, .val (.long q1), .second, .val (.long q2), .second, .val (.long q3), .second, .val (.long q4), .second, .val (.int p5), .val (.int (((p5.toUInt32 >>> ((4 : Int32) &&& 31).toUInt32).toInt32) &&& (3 : Int32))), .val (.long zn2), .second, .val (.long (own_sel ((p5 &&& (2 : Int32)) = (0 : Int32)) q1 (q1 + q4))), .second, .unset, .unset, .unset, .unset, .unset, .unset, .unset, .unset, .unset] [])) (fun _ k => XS.lstore X0.here hx rfl (hb hby at_40) rfl (l' := #[.val (.long q0), .second, .val (.long q1), .second, .val (.long q2), .second, .val (.long q3), .second, .val (.long q4), .second, .val (.int p5), .val (.int (((p5.toUInt32 >>> ((4 : Int32) &&& 31).toUInt32).toInt32) &&& (3 : Int32))), .val (.long zn2), .second, .val (.long (own_sel ((p5 &&& (2 : Int32)) = (0 : Int32)) q1 (q1 + q4))), .second, .unset, .unset, .unset, .unset, .unset, .unset, .unset, .unset, .unset]) rfl k) ?_
  generalize hzf2 : (own_sel ((p5 &&& (2 : Int32)) = (0 : Int32)) q1 (q1 + q4)) = zf2
  refine own_go (T' := s₁) (f' := (mkF m 46 #[.val (.long q0), .second, .val (.long q1), .second, .val (.long q2), .second, .val (.long q3), .second, .val (.long q4), .second, .val (.int p5), .val (.int (((p5.toUInt32 >>> ((4 : Int32) &&& 31).toUInt32).toInt32) &&& (3 : Int32))), .val (.long zn2), .second, .val (.long zf2), .second, .unset, .unset, .unset, .unset, .unset, .unset, .unset, .unset, .unset] [(.int (p5 &&& (4 : Int32)))])) (fun _ k => XS.iload X0.here hx rfl (hb hby at_42) rfl (XS.iconst X0.here hx rfl (hb hby at_44) (XS.iand X0.here hx rfl (hb hby at_45) rfl k))) ?_
  refine own_go (T' := s₁) (f' := (mkF m 59 #[.val (.long q0), .second, .val (.long q1), .second, .val (.long q2), .second, .val (.long q3), .second, .val (.long q4), .second, .val (.int p5), .val (.int (((p5.toUInt32 >>> ((4 : Int32) &&& 31).toUInt32).toInt32) &&& (3 : Int32))), .val (.long zn2), .second, .val (.long zf2), .second, .unset, .unset, .unset, .unset, .unset, .unset, .unset, .unset, .unset] [(.long (own_sel ((p5 &&& (4 : Int32)) = (0 : Int32)) q2 (q2 + q4)))])) (fun _ k => ?_) ?_
  · by_cases hm3 : (p5 &&& (4 : Int32)) = (0 : Int32)
    · rw [(own_sel_t hm3 : (own_sel ((p5 &&& (4 : Int32)) = (0 : Int32)) q2 (q2 + q4)) = q2)] at k
      show Steps p.tables e below (s₁.setTop (mkF m 46 #[.val (.long q0), .second, .val (.long q1), .second, .val (.long q2), .second, .val (.long q3), .second, .val (.long q4), .second, .val (.int p5), .val (.int (((p5.toUInt32 >>> ((4 : Int32) &&& 31).toUInt32).toInt32) &&& (3 : Int32))), .val (.long zn2), .second, .val (.long zf2), .second, .unset, .unset, .unset, .unset, .unset, .unset, .unset, .unset, .unset] [(.int (p5 &&& (4 : Int32)))])) _
      refine XS.ifYes X0.here hx rfl (pc0 := 46) (pc' := 57) rfl (hb hby at_46) rfl ((if0 _ _).trans (teq hm3).1) (by decide) (by decide) (XS.lload X0.here hx rfl (hb hby at_57) rfl ?_)
      show Steps p.tables e below (s₁.setTop (mkF m 59 #[.val (.long q0), .second, .val (.long q1), .second, .val (.long q2), .second, .val (.long q3), .second, .val (.long q4), .second, .val (.int p5), .val (.int (((p5.toUInt32 >>> ((4 : Int32) &&& 31).toUInt32).toInt32) &&& (3 : Int32))), .val (.long zn2), .second, .val (.long zf2), .second, .unset, .unset, .unset, .unset, .unset, .unset, .unset, .unset, .unset] [(.long q2)])) _
      exact k
    · rw [(own_sel_f hm3 : (own_sel ((p5 &&& (4 : Int32)) = (0 : Int32)) q2 (q2 + q4)) = (q2 + q4))] at k
      show Steps p.tables e below (s₁.setTop (mkF m 46 #[.val (.long q0), .second, .val (.long q1), .second, .val (.long q2), .second, .val (.long q3), .second, .val (.long q4), .second, .val (.int p5), .val (.int (((p5.toUInt32 >>> ((4 : Int32) &&& 31).toUInt32).toInt32) &&& (3 : Int32))), .val (.long zn2), .second, .val (.long zf2), .second, .unset, .unset, .unset, .unset, .unset, .unset, .unset, .unset, .unset] [(.int (p5 &&& (4 : Int32)))])) _
      refine XS.ifNo X0.here hx rfl (hb hby at_46) rfl ((if0 _ _).trans (feq hm3).1) (XS.lload X0.here hx rfl (hb hby at_49) rfl (XS.lload X0.here hx rfl (hb hby at_51) rfl (XS.ladd X0.here hx rfl (hb hby at_53) rfl (XS.goto X0.here hx rfl (pc0 := 54) (pc' := 59) rfl (hb hby at_54) (by decide) (by decide) ?_))))
      show Steps p.tables e below (s₁.setTop (mkF m 59 #[.val (.long q0), .second, .val (.long q1), .second, .val (.long q2), .second, .val (.long q3), .second, .val (.long q4), .second, .val (.int p5), .val (.int (((p5.toUInt32 >>> ((4 : Int32) &&& 31).toUInt32).toInt32) &&& (3 : Int32))), .val (.long zn2), .second, .val (.long zf2), .second, .unset, .unset, .unset, .unset, .unset, .unset, .unset, .unset, .unset] [(.long (q2 + q4))])) _
      exact k
  refine own_go (T' := s₁) (f' := (mkF m 61 #[.val (.long q0), .second, .val (.long q1), .second, .val (.long q2), .second, .val (.long q3), .second, .val (.long q4), .second, .val (.int p5), .val (.int (((p5.toUInt32 >>> ((4 : Int32) &&& 31).toUInt32).toInt32) &&& (3 : Int32))), .val (.long zn2), .second, .val (.long zf2), .second, .val (.long (own_sel ((p5 &&& (4 : Int32)) = (0 : Int32)) q2 (q2 + q4))), .second, .unset, .unset, .unset, .unset, .unset, .unset, .unset] [])) (fun _ k => XS.lstore X0.here hx rfl (hb hby at_59) rfl (l' := #[.val (.long q0), .second, .val (.long q1), .second, .val (.long q2), .second, .val (.long q3), .second, .val (.long q4), .second, .val (.int p5), .val (.int (((p5.toUInt32 >>> ((4 : Int32) &&& 31).toUInt32).toInt32) &&& (3 : Int32))), .val (.long zn2), .second, .val (.long zf2), .second, .val (.long (own_sel ((p5 &&& (4 : Int32)) = (0 : Int32)) q2 (q2 + q4))), .second, .unset, .unset, .unset, .unset, .unset, .unset, .unset]) rfl k) ?_
  generalize hzl2 : (own_sel ((p5 &&& (4 : Int32)) = (0 : Int32)) q2 (q2 + q4)) = zl2
  refine own_go (T' := s₁) (f' := (mkF m 66 #[.val (.long q0), .second, .val (.long q1), .second, .val (.long q2), .second, .val (.long q3), .second, .val (.long q4), .second, .val (.int p5), .val (.int (((p5.toUInt32 >>> ((4 : Int32) &&& 31).toUInt32).toInt32) &&& (3 : Int32))), .val (.long zn2), .second, .val (.long zf2), .second, .val (.long zl2), .second, .unset, .unset, .unset, .unset, .unset, .unset, .unset] [(.int (p5 &&& (8 : Int32)))])) (fun _ k => XS.iload X0.here hx rfl (hb hby at_61) rfl (XS.bipush X0.here hx rfl (hb hby at_63) (XS.iand X0.here hx rfl (hb hby at_65) rfl k))) ?_
  refine own_go (T' := s₁) (f' := (mkF m 79 #[.val (.long q0), .second, .val (.long q1), .second, .val (.long q2), .second, .val (.long q3), .second, .val (.long q4), .second, .val (.int p5), .val (.int (((p5.toUInt32 >>> ((4 : Int32) &&& 31).toUInt32).toInt32) &&& (3 : Int32))), .val (.long zn2), .second, .val (.long zf2), .second, .val (.long zl2), .second, .unset, .unset, .unset, .unset, .unset, .unset, .unset] [(.long (own_sel ((p5 &&& (8 : Int32)) = (0 : Int32)) q3 (q3 + q4)))])) (fun _ k => ?_) ?_
  · by_cases hm4 : (p5 &&& (8 : Int32)) = (0 : Int32)
    · rw [(own_sel_t hm4 : (own_sel ((p5 &&& (8 : Int32)) = (0 : Int32)) q3 (q3 + q4)) = q3)] at k
      show Steps p.tables e below (s₁.setTop (mkF m 66 #[.val (.long q0), .second, .val (.long q1), .second, .val (.long q2), .second, .val (.long q3), .second, .val (.long q4), .second, .val (.int p5), .val (.int (((p5.toUInt32 >>> ((4 : Int32) &&& 31).toUInt32).toInt32) &&& (3 : Int32))), .val (.long zn2), .second, .val (.long zf2), .second, .val (.long zl2), .second, .unset, .unset, .unset, .unset, .unset, .unset, .unset] [(.int (p5 &&& (8 : Int32)))])) _
      refine XS.ifYes X0.here hx rfl (pc0 := 66) (pc' := 77) rfl (hb hby at_66) rfl ((if0 _ _).trans (teq hm4).1) (by decide) (by decide) (XS.lload X0.here hx rfl (hb hby at_77) rfl ?_)
      show Steps p.tables e below (s₁.setTop (mkF m 79 #[.val (.long q0), .second, .val (.long q1), .second, .val (.long q2), .second, .val (.long q3), .second, .val (.long q4), .second, .val (.int p5), .val (.int (((p5.toUInt32 >>> ((4 : Int32) &&& 31).toUInt32).toInt32) &&& (3 : Int32))), .val (.long zn2), .second, .val (.long zf2), .second, .val (.long zl2), .second, .unset, .unset, .unset, .unset, .unset, .unset, .unset] [(.long q3)])) _
      exact k
    · rw [(own_sel_f hm4 : (own_sel ((p5 &&& (8 : Int32)) = (0 : Int32)) q3 (q3 + q4)) = (q3 + q4))] at k
      show Steps p.tables e below (s₁.setTop (mkF m 66 #[.val (.long q0), .second, .val (.long q1), .second, .val (.long q2), .second, .val (.long q3), .second, .val (.long q4), .second, .val (.int p5), .val (.int (((p5.toUInt32 >>> ((4 : Int32) &&& 31).toUInt32).toInt32) &&& (3 : Int32))), .val (.long zn2), .second, .val (.long zf2), .second, .val (.long zl2), .second, .unset, .unset, .unset, .unset, .unset, .unset, .unset] [(.int (p5 &&& (8 : Int32)))])) _
      refine XS.ifNo X0.here hx rfl (hb hby at_66) rfl ((if0 _ _).trans (feq hm4).1) (XS.lload X0.here hx rfl (hb hby at_69) rfl (XS.lload X0.here hx rfl (hb hby at_71) rfl (XS.ladd X0.here hx rfl (hb hby at_73) rfl (XS.goto X0.here hx rfl (pc0 := 74) (pc' := 79) rfl (hb hby at_74) (by decide) (by decide) ?_))))
      show Steps p.tables e below (s₁.setTop (mkF m 79 #[.val (.long q0), .second, .val (.long q1), .second, .val (.long q2), .second, .val (.long q3), .second, .val (.long q4), .second, .val (.int p5), .val (.int (((p5.toUInt32 >>> ((4 : Int32) &&& 31).toUInt32).toInt32) &&& (3 : Int32))), .val (.long zn2), .second, .val (.long zf2), .second, .val (.long zl2), .second, .unset, .unset, .unset, .unset, .unset, .unset, .unset] [(.long (q3 + q4))])) _
      exact k
  refine own_go (T' := s₁) (f' := (mkF m 81 #[.val (.long q0), .second, .val (.long q1), .second, .val (.long q2), .second, .val (.long q3), .second, .val (.long q4), .second, .val (.int p5), .val (.int (((p5.toUInt32 >>> ((4 : Int32) &&& 31).toUInt32).toInt32) &&& (3 : Int32))), .val (.long zn2), .second, .val (.long zf2), .second, .val (.long zl2), .second, .val (.long (own_sel ((p5 &&& (8 : Int32)) = (0 : Int32)) q3 (q3 + q4))), .second, .unset, .unset, .unset, .unset, .unset] [])) (fun _ k => XS.lstore X0.here hx rfl (hb hby at_79) rfl (l' := #[.val (.long q0), .second, .val (.long q1), .second, .val (.long q2), .second, .val (.long q3), .second, .val (.long q4), .second, .val (.int p5), .val (.int (((p5.toUInt32 >>> ((4 : Int32) &&& 31).toUInt32).toInt32) &&& (3 : Int32))), .val (.long zn2), .second, .val (.long zf2), .second, .val (.long zl2), .second, .val (.long (own_sel ((p5 &&& (8 : Int32)) = (0 : Int32)) q3 (q3 + q4))), .second, .unset, .unset, .unset, .unset, .unset]) rfl k) ?_
  generalize hzw2 : (own_sel ((p5 &&& (8 : Int32)) = (0 : Int32)) q3 (q3 + q4)) = zw2
  obtain ⟨T5, h5, X5, e5, E5, A5, D5, -, st5⟩ := newO X0 hx hZ hown (ow0 hw) (ow1 hw) (ow2 hw) e0 (g := (mkF m 81 #[.val (.long q0), .second, .val (.long q1), .second, .val (.long q2), .second, .val (.long q3), .second, .val (.long q4), .second, .val (.int p5), .val (.int (((p5.toUInt32 >>> ((4 : Int32) &&& 31).toUInt32).toInt32) &&& (3 : Int32))), .val (.long zn2), .second, .val (.long zf2), .second, .val (.long zl2), .second, .val (.long zw2), .second, .unset, .unset, .unset, .unset, .unset] [])) rfl (hb hby at_81) (by decide) (by decide)
  obtain ⟨b5, g_b5⟩ : ∃ z, z = h0.size := ⟨_, rfl⟩
  have sg_b5 : h0.size ≤ b5 := Nat.le_of_eq g_b5.symm
  rw [← g_b5] at A5 D5 st5
  have n_b5 : n0 ≤ b5 := Nat.le_trans Z0 (Nat.le_of_eq g_b5.symm)
  have sz_b5 : h0.size ≤ b5 := Nat.le_trans (Keep.refl h0 []).1 (Nat.le_of_eq g_b5.symm)
  have K5 : Keep h0 h5 [] := (Keep.refl h0 []).ext E5
  have F_number_b5 : Fld Z h5 b5 "com/example/aliquot/aliquot/Task" "number" "J" (.long (0 : Int64)) := D5 (Or.inr (ow15 hw)) (ty := .long) (by decide)
  have F_firstRecord_b5 : Fld Z h5 b5 "com/example/aliquot/aliquot/Task" "firstRecord" "J" (.long (0 : Int64)) := D5 (Or.inr (ow17 hw)) (ty := .long) (by decide)
  have F_lastRecord_b5 : Fld Z h5 b5 "com/example/aliquot/aliquot/Task" "lastRecord" "J" (.long (0 : Int64)) := D5 (Or.inr (ow19 hw)) (ty := .long) (by decide)
  have F_firstWithoutIdentifier_b5 : Fld Z h5 b5 "com/example/aliquot/aliquot/Task" "firstWithoutIdentifier" "J" (.long (0 : Int64)) := D5 (Or.inr (ow21 hw)) (ty := .long) (by decide)
  refine own_go (T' := T5) (f' := (mkF m 91 #[.val (.long q0), .second, .val (.long q1), .second, .val (.long q2), .second, .val (.long q3), .second, .val (.long q4), .second, .val (.int p5), .val (.int (((p5.toUInt32 >>> ((4 : Int32) &&& 31).toUInt32).toInt32) &&& (3 : Int32))), .val (.long zn2), .second, .val (.long zf2), .second, .val (.long zl2), .second, .val (.long zw2), .second, .unset, .unset, .unset, .unset, .unset] [(.long q3), (.long q2), (.long q1), (.long q0), (.ref b5), (.ref b5)])) (fun _ k => st5 _ (XS.dup X5.here hx rfl (hb hby at_84) rfl rfl (XS.lloadN X5.here hx rfl (hb hby at_85) rfl (XS.lloadN X5.here hx rfl (hb hby at_86) rfl (XS.lload X5.here hx rfl (hb hby at_87) rfl (XS.lload X5.here hx rfl (hb hby at_89) rfl k)))))) ?_
  obtain ⟨_, _, ⟨T6, L6, k6, n6⟩, -, X6, ⟨Lc6, hQ6, l6, y6, z6⟩, st6⟩ := X5.specialBack hx (y := mn1) rfl hown (mvT hZ (ow3 hw)) (mvT hZ (ow4 hw)) (mvT hZ (ow5 hw)) (by decide) (backOf (W := 1) (rm1 l Z a0 hw [] b5 q0 q1 q2 q3 _ _ _ _ h5 n0 (Nat.le_trans Z0 E5.1) A5 n_b5 F_number_b5 F_firstRecord_b5 F_lastRecord_b5 F_firstWithoutIdentifier_b5) hZ (ow5 hw) (ow2 hw) (by decide) (by decide)) (g := (mkF m 91 #[.val (.long q0), .second, .val (.long q1), .second, .val (.long q2), .second, .val (.long q3), .second, .val (.long q4), .second, .val (.int p5), .val (.int (((p5.toUInt32 >>> ((4 : Int32) &&& 31).toUInt32).toInt32) &&& (3 : Int32))), .val (.long zn2), .second, .val (.long zf2), .second, .val (.long zl2), .second, .val (.long zw2), .second, .unset, .unset, .unset, .unset, .unset] [(.long q3), (.long q2), (.long q1), (.long q0), (.ref b5), (.ref b5)])) rfl (by rw [hml]; rfl) (Steps.refl _) (a := b5) (argsL := [(.long q0), (.long q1), (.long q2), (.long q3)]) (rest := [(.ref b5)]) (lenOf pd3 rfl) rfl (by show 2 * 0 + _ ≤ _; exact Nat.le_of_eq rfl) (hb hby at_91) (fun _ _ => ⟨rfl, e5, (by decide : 1 + 0 ≤ _), (by decide : 4 + 0 ≤ _)⟩)
  dsimp only [Pt.U, Pt.locs, Pt.cells, Pt.slots] at X6 l6 y6 z6 st6 hQ6
  subst l6 y6 z6
  obtain ⟨rfl, N6q, K6, gE6, gF6_0, gF6_1, gF6_2, gF6_3⟩ := hQ6
  have N6 := Fr.app N0 N6q
  have KK6 : Keep h0 T6.heap [] := Keep.trans K5 K6 (allS (Or.inr sz_b5) all0)
  refine own_go (T' := T6) (f' := (mkF m 96 #[.val (.long q0), .second, .val (.long q1), .second, .val (.long q2), .second, .val (.long q3), .second, .val (.long q4), .second, .val (.int p5), .val (.int (((p5.toUInt32 >>> ((4 : Int32) &&& 31).toUInt32).toInt32) &&& (3 : Int32))), .val (.long zn2), .second, .val (.long zf2), .second, .val (.long zl2), .second, .val (.long zw2), .second, .val (.ref b5), .unset, .unset, .unset, .unset] [])) (fun _ k => st6.trans (XS.astore X6.here hx rfl (hb hby at_94) rfl rfl (l' := #[.val (.long q0), .second, .val (.long q1), .second, .val (.long q2), .second, .val (.long q3), .second, .val (.long q4), .second, .val (.int p5), .val (.int (((p5.toUInt32 >>> ((4 : Int32) &&& 31).toUInt32).toInt32) &&& (3 : Int32))), .val (.long zn2), .second, .val (.long zf2), .second, .val (.long zl2), .second, .val (.long zw2), .second, .val (.ref b5), .unset, .unset, .unset, .unset]) rfl k)) ?_
  obtain ⟨T7, h7, X7, e7, E7, A7, D7, -, st7⟩ := newO X6 hx hZ hown (ow0 hw) (ow1 hw) (ow2 hw) rfl (g := (mkF m 96 #[.val (.long q0), .second, .val (.long q1), .second, .val (.long q2), .second, .val (.long q3), .second, .val (.long q4), .second, .val (.int p5), .val (.int (((p5.toUInt32 >>> ((4 : Int32) &&& 31).toUInt32).toInt32) &&& (3 : Int32))), .val (.long zn2), .second, .val (.long zf2), .second, .val (.long zl2), .second, .val (.long zw2), .second, .val (.ref b5), .unset, .unset, .unset, .unset] [])) rfl (hb hby at_96) (by decide) (by decide)
  obtain ⟨b7, g_b7⟩ : ∃ z, z = T6.heap.size := ⟨_, rfl⟩
  have sg_b7 : T6.heap.size ≤ b7 := Nat.le_of_eq g_b7.symm
  rw [← g_b7] at A7 D7 st7
  have n_b7 : n0 ≤ b7 := Nat.le_trans (Nat.le_trans (Nat.le_trans Z0 E5.1) K6.1) (Nat.le_of_eq g_b7.symm)
  have sz_b7 : h0.size ≤ b7 := Nat.le_trans KK6.1 (Nat.le_of_eq g_b7.symm)
  have K7 : Keep h0 h7 [] := KK6.ext E7
  have F_number_b7 : Fld Z h7 b7 "com/example/aliquot/aliquot/Task" "number" "J" (.long (0 : Int64)) := D7 (Or.inr (ow15 hw)) (ty := .long) (by decide)
  have F_firstRecord_b7 : Fld Z h7 b7 "com/example/aliquot/aliquot/Task" "firstRecord" "J" (.long (0 : Int64)) := D7 (Or.inr (ow17 hw)) (ty := .long) (by decide)
  have F_lastRecord_b7 : Fld Z h7 b7 "com/example/aliquot/aliquot/Task" "lastRecord" "J" (.long (0 : Int64)) := D7 (Or.inr (ow19 hw)) (ty := .long) (by decide)
  have F_firstWithoutIdentifier_b7 : Fld Z h7 b7 "com/example/aliquot/aliquot/Task" "firstWithoutIdentifier" "J" (.long (0 : Int64)) := D7 (Or.inr (ow21 hw)) (ty := .long) (by decide)
  refine own_go (T' := T7) (f' := (mkF m 108 #[.val (.long q0), .second, .val (.long q1), .second, .val (.long q2), .second, .val (.long q3), .second, .val (.long q4), .second, .val (.int p5), .val (.int (((p5.toUInt32 >>> ((4 : Int32) &&& 31).toUInt32).toInt32) &&& (3 : Int32))), .val (.long zn2), .second, .val (.long zf2), .second, .val (.long zl2), .second, .val (.long zw2), .second, .val (.ref b5), .unset, .unset, .unset, .unset] [(.long zw2), (.long zl2), (.long zf2), (.long zn2), (.ref b7), (.ref b7)])) (fun _ k => st7 _ (XS.dup X7.here hx rfl (hb hby at_99) rfl rfl (XS.lload X7.here hx rfl (hb hby at_100) rfl (XS.lload X7.here hx rfl (hb hby at_102) rfl (XS.lload X7.here hx rfl (hb hby at_104) rfl (XS.lload X7.here hx rfl (hb hby at_106) rfl k)))))) ?_
  obtain ⟨_, _, ⟨T8, L8, k8, n8⟩, -, X8, ⟨Lc8, hQ8, l8, y8, z8⟩, st8⟩ := X7.specialBack hx (y := mn1) rfl hown (mvT hZ (ow3 hw)) (mvT hZ (ow4 hw)) (mvT hZ (ow5 hw)) (by decide) (backOf (W := 1) (rm1 l Z a0 hw [] b7 zn2 zf2 zl2 zw2 _ _ _ _ h7 n0 (Nat.le_trans (Nat.le_trans (Nat.le_trans Z0 E5.1) K6.1) E7.1) A7 n_b7 F_number_b7 F_firstRecord_b7 F_lastRecord_b7 F_firstWithoutIdentifier_b7) hZ (ow5 hw) (ow2 hw) (by decide) (by decide)) (g := (mkF m 108 #[.val (.long q0), .second, .val (.long q1), .second, .val (.long q2), .second, .val (.long q3), .second, .val (.long q4), .second, .val (.int p5), .val (.int (((p5.toUInt32 >>> ((4 : Int32) &&& 31).toUInt32).toInt32) &&& (3 : Int32))), .val (.long zn2), .second, .val (.long zf2), .second, .val (.long zl2), .second, .val (.long zw2), .second, .val (.ref b5), .unset, .unset, .unset, .unset] [(.long zw2), (.long zl2), (.long zf2), (.long zn2), (.ref b7), (.ref b7)])) rfl (by rw [hml]; rfl) (Steps.refl _) (a := b7) (argsL := [(.long zn2), (.long zf2), (.long zl2), (.long zw2)]) (rest := [(.ref b7)]) (lenOf pd3 rfl) rfl (by show 2 * 0 + _ ≤ _; exact Nat.le_of_eq rfl) (hb hby at_108) (fun _ _ => ⟨rfl, e7, (by decide : 2 + 0 ≤ _), (by decide : 8 + 0 ≤ _)⟩)
  dsimp only [Pt.U, Pt.locs, Pt.cells, Pt.slots] at X8 l8 y8 z8 st8 hQ8
  subst l8 y8 z8
  obtain ⟨rfl, N8q, K8, gE8, gF8_0, gF8_1, gF8_2, gF8_3⟩ := hQ8
  have N8 := Fr.app N6 N8q
  have KK8 : Keep h0 T8.heap [] := Keep.trans K7 K8 (allS (Or.inr sz_b7) all0)
  refine own_go (T' := T8) (f' := (mkF m 114 #[.val (.long q0), .second, .val (.long q1), .second, .val (.long q2), .second, .val (.long q3), .second, .val (.long q4), .second, .val (.int p5), .val (.int (((p5.toUInt32 >>> ((4 : Int32) &&& 31).toUInt32).toInt32) &&& (3 : Int32))), .val (.long zn2), .second, .val (.long zf2), .second, .val (.long zl2), .second, .val (.long zw2), .second, .val (.ref b5), .val (.ref b7), .unset, .unset, .unset] [(.long q0)])) (fun _ k => st8.trans (XS.astore X8.here hx rfl (hb hby at_111) rfl rfl (l' := #[.val (.long q0), .second, .val (.long q1), .second, .val (.long q2), .second, .val (.long q3), .second, .val (.long q4), .second, .val (.int p5), .val (.int (((p5.toUInt32 >>> ((4 : Int32) &&& 31).toUInt32).toInt32) &&& (3 : Int32))), .val (.long zn2), .second, .val (.long zf2), .second, .val (.long zl2), .second, .val (.long zw2), .second, .val (.ref b5), .val (.ref b7), .unset, .unset, .unset]) rfl (XS.lloadN X8.here hx rfl (hb hby at_113) rfl k))) ?_
  obtain ⟨_, _, ⟨T9, L9, k9, n9⟩, -, X9, ⟨Lc9, hQ9, l9, y9, z9⟩, st9⟩ := Jvm.LawKit.callS X8 hx (y := mn4) hown (mvT hZ (ow22 hw)) (mvT hZ (ow23 hw)) (mvT hZ (ow24 hw)) (mvT hZ (ow25 hw)) (by decide) (backOf (W := 0) (rm4 l Z a0 hw [] q0 wc clc T8.heap n0 (Nat.le_trans (Nat.le_trans (Nat.le_trans (Nat.le_trans Z0 E5.1) K6.1) E7.1) K8.1) (S_c.ext (own_kx KK8)) (A_c.ext (own_kx KK8)) hsz (fun j hj => (hel j hj).imp fun y q => ⟨q.1, q.2.ext (own_kx KK8)⟩)) hZ (ow25 hw) (ow24 hw) (by decide) (by decide)) (g := (mkF m 114 #[.val (.long q0), .second, .val (.long q1), .second, .val (.long q2), .second, .val (.long q3), .second, .val (.long q4), .second, .val (.int p5), .val (.int (((p5.toUInt32 >>> ((4 : Int32) &&& 31).toUInt32).toInt32) &&& (3 : Int32))), .val (.long zn2), .second, .val (.long zf2), .second, .val (.long zl2), .second, .val (.long zw2), .second, .val (.ref b5), .val (.ref b7), .unset, .unset, .unset] [(.long q0)])) rfl (by rw [hml]; rfl) (argsL := [(.long q0)]) (rest := []) (lenOf pd1 rfl) rfl (by show 2 * 0 + _ ≤ _; exact Nat.le_of_eq rfl) (hb hby at_114) (fun _ _ => ⟨rfl, rfl, (by decide : 2 + 1 ≤ _), (by decide : 8 + 1 ≤ _)⟩)
  dsimp only [Pt.U, Pt.locs, Pt.cells, Pt.slots] at X9 l9 y9 z9 st9 hQ9
  subst l9 y9 z9
  obtain ⟨lg9, rfl, N9q, K9, gE9⟩ := hQ9
  have N9 := Fr.app N8 N9q
  have KK9 : Keep h0 T9.heap [] := Keep.trans KK8 K9 all0
  refine own_go (T' := T9) (f' := (mkF m 122 #[.val (.long q0), .second, .val (.long q1), .second, .val (.long q2), .second, .val (.long q3), .second, .val (.long q4), .second, .val (.int p5), .val (.int (((p5.toUInt32 >>> ((4 : Int32) &&& 31).toUInt32).toInt32) &&& (3 : Int32))), .val (.long zn2), .second, .val (.long zf2), .second, .val (.long zl2), .second, .val (.long zw2), .second, .val (.ref b5), .val (.ref b7), .val (.ref lg9), .unset, .unset] [(.int (1 : Int32)), (.int (((p5.toUInt32 >>> ((4 : Int32) &&& 31).toUInt32).toInt32) &&& (3 : Int32)))])) (fun _ k => st9 _ (XS.astore X9.here hx rfl (hb hby at_117) rfl rfl (l' := #[.val (.long q0), .second, .val (.long q1), .second, .val (.long q2), .second, .val (.long q3), .second, .val (.long q4), .second, .val (.int p5), .val (.int (((p5.toUInt32 >>> ((4 : Int32) &&& 31).toUInt32).toInt32) &&& (3 : Int32))), .val (.long zn2), .second, .val (.long zf2), .second, .val (.long zl2), .second, .val (.long zw2), .second, .val (.ref b5), .val (.ref b7), .val (.ref lg9), .unset, .unset]) rfl (XS.iload X9.here hx rfl (hb hby at_119) rfl (XS.iconst X9.here hx rfl (hb hby at_121) k)))) ?_
  by_cases hc10 : (((p5.toUInt32 >>> ((4 : Int32) &&& 31).toUInt32).toInt32) &&& (3 : Int32)) = (1 : Int32)
  · refine own_go (T' := T9) (f' := (mkF m 128 #[.val (.long q0), .second, .val (.long q1), .second, .val (.long q2), .second, .val (.long q3), .second, .val (.long q4), .second, .val (.int p5), .val (.int (((p5.toUInt32 >>> ((4 : Int32) &&& 31).toUInt32).toInt32) &&& (3 : Int32))), .val (.long zn2), .second, .val (.long zf2), .second, .val (.long zl2), .second, .val (.long zw2), .second, .val (.ref b5), .val (.ref b7), .val (.ref lg9), .unset, .unset] [.null, (.ref b5)])) (fun _ k => XS.icmpNo X9.here hx rfl (hb hby at_122) rfl (teq hc10).2 (XS.aload X9.here hx rfl (hb hby at_125) rfl rfl (XS.aconstNull X9.here hx rfl (hb hby at_127) k))) ?_
    obtain ⟨cq11, kq11, q11a, q11b, q11c⟩ := isOf hZ rfl (((gE6.ext E7).keep K8).keep K9)
    obtain ⟨_, _, ⟨T11, L11, k11, n11⟩, -, X11, ⟨Lc11, hQ11, l11, y11, z11⟩, st11⟩ := X9.virtualBack hx (y := mn5) (z := mn5) hown (mvT hZ (ow30 hw)) (mvT hZ (ow31 hw)) (notFace_of_selects (args := #[]) (mvT hZ (ow33 hw))) (mvT hZ (ow33 hw)) (mvT hZ (ow32 hw)) (by decide) (backOf (W := 0) (rm5n l Z a0 hw [] b5 T9.heap n0 (Nat.le_trans (Nat.le_trans (Nat.le_trans (Nat.le_trans (Nat.le_trans Z0 E5.1) K6.1) E7.1) K8.1) K9.1)) hZ (ow34 hw) (ow2 hw) (by decide) (by decide)) q11a q11c (g := (mkF m 128 #[.val (.long q0), .second, .val (.long q1), .second, .val (.long q2), .second, .val (.long q3), .second, .val (.long q4), .second, .val (.int p5), .val (.int (((p5.toUInt32 >>> ((4 : Int32) &&& 31).toUInt32).toInt32) &&& (3 : Int32))), .val (.long zn2), .second, .val (.long zf2), .second, .val (.long zl2), .second, .val (.long zw2), .second, .val (.ref b5), .val (.ref b7), .val (.ref lg9), .unset, .unset] [.null, (.ref b5)])) rfl (by rw [hml]; rfl) (Steps.refl _) (argsL := [.null]) (rest := []) (lenOf pd4 rfl) rfl (by show 2 * 0 + _ ≤ _; exact Nat.le_of_eq rfl) (hb hby at_128) (fun _ _ => ⟨rfl, rfl, (by decide : 3 + 0 ≤ _), (by decide : 9 + 0 ≤ _)⟩)
    dsimp only [Pt.U, Pt.locs, Pt.cells, Pt.slots] at X11 l11 y11 z11 st11 hQ11
    subst l11 y11 z11
    obtain ⟨rfl, N11q, hh11⟩ := hQ11
    have N11 := Fr.app N9 N11q
    refine own_go (T' := T11) (f' := (mkF m 139 #[.val (.long q0), .second, .val (.long q1), .second, .val (.long q2), .second, .val (.long q3), .second, .val (.long q4), .second, .val (.int p5), .val (.int (((p5.toUInt32 >>> ((4 : Int32) &&& 31).toUInt32).toInt32) &&& (3 : Int32))), .val (.long zn2), .second, .val (.long zf2), .second, .val (.long zl2), .second, .val (.long zw2), .second, .val (.ref b5), .val (.ref b7), .val (.ref lg9), .unset, .unset] [(.int (1 : Int32))])) (fun _ k => st11.trans (XS.ifNo X11.here hx rfl (hb hby at_131) rfl ((if0 _ _).trans (teq (by decide : ((0 : Int32) = (0 : Int32)))).2) (XS.iconst X11.here hx rfl (hb hby at_134) (XS.goto X11.here hx rfl (pc0 := 135) (pc' := 139) rfl (hb hby at_135) (by decide) (by decide) k)))) ?_
    refine own_ret X11 (v := some (.int (1 : Int32))) (fun h => by rw [Bd.returns] at h; cases h) Bd.notSynchronized (fun fs hr => retN X11 hx (t := .boolean) Bd.returns (by simp) (hb hby at_139) hr) ?_ (by decide) (by decide)
    show Q0 Z q0 q1 q2 q3 q4 p5 wc clc h0 n0 _ T11.heap _
    exact ⟨rfl, N11⟩
  · refine own_go (T' := T9) (f' := (mkF m 143 #[.val (.long q0), .second, .val (.long q1), .second, .val (.long q2), .second, .val (.long q3), .second, .val (.long q4), .second, .val (.int p5), .val (.int (((p5.toUInt32 >>> ((4 : Int32) &&& 31).toUInt32).toInt32) &&& (3 : Int32))), .val (.long zn2), .second, .val (.long zf2), .second, .val (.long zl2), .second, .val (.long zw2), .second, .val (.ref b5), .val (.ref b7), .val (.ref lg9), .unset, .unset] [(.int (2 : Int32)), (.int (((p5.toUInt32 >>> ((4 : Int32) &&& 31).toUInt32).toInt32) &&& (3 : Int32)))])) (fun _ k => XS.icmpYes X9.here hx rfl (pc0 := 122) (pc' := 140) rfl (hb hby at_122) rfl (feq hc10).2 (by decide) (by decide) (XS.iload X9.here hx rfl (hb hby at_140) rfl (XS.iconst X9.here hx rfl (hb hby at_142) k))) ?_
    by_cases hc12 : (((p5.toUInt32 >>> ((4 : Int32) &&& 31).toUInt32).toInt32) &&& (3 : Int32)) = (2 : Int32)
    · refine own_go (T' := T9) (f' := (mkF m 150 #[.val (.long q0), .second, .val (.long q1), .second, .val (.long q2), .second, .val (.long q3), .second, .val (.long q4), .second, .val (.int p5), .val (.int (((p5.toUInt32 >>> ((4 : Int32) &&& 31).toUInt32).toInt32) &&& (3 : Int32))), .val (.long zn2), .second, .val (.long zf2), .second, .val (.long zl2), .second, .val (.long zw2), .second, .val (.ref b5), .val (.ref b7), .val (.ref lg9), .unset, .unset] [(.ref lg9), (.ref b5)])) (fun _ k => XS.icmpNo X9.here hx rfl (hb hby at_143) rfl (teq hc12).2 (XS.aload X9.here hx rfl (hb hby at_146) rfl rfl (XS.aload X9.here hx rfl (hb hby at_148) rfl rfl k))) ?_
      obtain ⟨cq13, kq13, q13a, q13b, q13c⟩ := isOf hZ rfl (((gE6.ext E7).keep K8).keep K9)
      obtain ⟨_, _, ⟨T13, L13, k13, n13⟩, -, X13, ⟨Lc13, hQ13, l13, y13, z13⟩, st13⟩ := X9.virtualBack hx (y := mn5) (z := mn5) hown (mvT hZ (ow30 hw)) (mvT hZ (ow31 hw)) (notFace_of_selects (args := #[]) (mvT hZ (ow33 hw))) (mvT hZ (ow33 hw)) (mvT hZ (ow32 hw)) (by decide) (backOf (W := 0) (rm5l l Z a0 hw [] b5 lg9 T9.heap n0 (Nat.le_trans (Nat.le_trans (Nat.le_trans (Nat.le_trans (Nat.le_trans Z0 E5.1) K6.1) E7.1) K8.1) K9.1) gE9) hZ (ow34 hw) (ow2 hw) (by decide) (by decide)) q13a q13c (g := (mkF m 150 #[.val (.long q0), .second, .val (.long q1), .second, .val (.long q2), .second, .val (.long q3), .second, .val (.long q4), .second, .val (.int p5), .val (.int (((p5.toUInt32 >>> ((4 : Int32) &&& 31).toUInt32).toInt32) &&& (3 : Int32))), .val (.long zn2), .second, .val (.long zf2), .second, .val (.long zl2), .second, .val (.long zw2), .second, .val (.ref b5), .val (.ref b7), .val (.ref lg9), .unset, .unset] [(.ref lg9), (.ref b5)])) rfl (by rw [hml]; rfl) (Steps.refl _) (argsL := [(.ref lg9)]) (rest := []) (lenOf pd4 rfl) rfl (by show 2 * 0 + _ ≤ _; exact Nat.le_of_eq rfl) (hb hby at_150) (fun _ _ => ⟨rfl, rfl, (by decide : 3 + 0 ≤ _), (by decide : 9 + 0 ≤ _)⟩)
      dsimp only [Pt.U, Pt.locs, Pt.cells, Pt.slots] at X13 l13 y13 z13 st13 hQ13
      subst l13 y13 z13
      obtain ⟨rfl, N13q, hh13⟩ := hQ13
      have N13 := Fr.app N9 N13q
      refine own_go (T' := T13) (f' := (mkF m 161 #[.val (.long q0), .second, .val (.long q1), .second, .val (.long q2), .second, .val (.long q3), .second, .val (.long q4), .second, .val (.int p5), .val (.int (((p5.toUInt32 >>> ((4 : Int32) &&& 31).toUInt32).toInt32) &&& (3 : Int32))), .val (.long zn2), .second, .val (.long zf2), .second, .val (.long zl2), .second, .val (.long zw2), .second, .val (.ref b5), .val (.ref b7), .val (.ref lg9), .unset, .unset] [(.int (1 : Int32))])) (fun _ k => st13.trans (XS.ifNo X13.here hx rfl (hb hby at_153) rfl ((if0 _ _).trans (teq (by decide : ((0 : Int32) = (0 : Int32)))).2) (XS.iconst X13.here hx rfl (hb hby at_156) (XS.goto X13.here hx rfl (pc0 := 157) (pc' := 161) rfl (hb hby at_157) (by decide) (by decide) k)))) ?_
      refine own_ret X13 (v := some (.int (1 : Int32))) (fun h => by rw [Bd.returns] at h; cases h) Bd.notSynchronized (fun fs hr => retN X13 hx (t := .boolean) Bd.returns (by simp) (hb hby at_161) hr) ?_ (by decide) (by decide)
      show Q0 Z q0 q1 q2 q3 q4 p5 wc clc h0 n0 _ T13.heap _
      exact ⟨rfl, N13⟩
    · refine own_go (T' := T9) (f' := (mkF m 166 #[.val (.long q0), .second, .val (.long q1), .second, .val (.long q2), .second, .val (.long q3), .second, .val (.long q4), .second, .val (.int p5), .val (.int (((p5.toUInt32 >>> ((4 : Int32) &&& 31).toUInt32).toInt32) &&& (3 : Int32))), .val (.long zn2), .second, .val (.long zf2), .second, .val (.long zl2), .second, .val (.long zw2), .second, .val (.ref b5), .val (.ref b7), .val (.ref lg9), .unset, .unset] [(.ref b7), (.ref b5)])) (fun _ k => XS.icmpYes X9.here hx rfl (pc0 := 143) (pc' := 162) rfl (hb hby at_143) rfl (feq hc12).2 (by decide) (by decide) (XS.aload X9.here hx rfl (hb hby at_162) rfl rfl (XS.aload X9.here hx rfl (hb hby at_164) rfl rfl k))) ?_
      obtain ⟨cq14, kq14, q14a, q14b, q14c⟩ := isOf hZ rfl (((gE6.ext E7).keep K8).keep K9)
      obtain ⟨_, _, ⟨T14, L14, k14, n14⟩, -, X14, ⟨Lc14, hQ14, l14, y14, z14⟩, st14⟩ := X9.virtualBack hx (y := mn5) (z := mn5) hown (mvT hZ (ow30 hw)) (mvT hZ (ow31 hw)) (notFace_of_selects (args := #[]) (mvT hZ (ow33 hw))) (mvT hZ (ow33 hw)) (mvT hZ (ow32 hw)) (by decide) (backOf (W := 0) (rm5t l Z a0 hw [] b5 b7 q0 q1 q2 q3 zn2 zf2 zl2 zw2 T9.heap n0 (Nat.le_trans (Nat.le_trans (Nat.le_trans (Nat.le_trans (Nat.le_trans Z0 E5.1) K6.1) E7.1) K8.1) K9.1) (gE8.keep K9) (((gF6_0.ext E7).keep K8 (ninS (Nat.ne_of_lt (Nat.lt_of_lt_of_le (A5.keep K6).lt sg_b7)) nin0)).keep K9 nin0) (((gF6_1.ext E7).keep K8 (ninS (Nat.ne_of_lt (Nat.lt_of_lt_of_le (A5.keep K6).lt sg_b7)) nin0)).keep K9 nin0) (((gF6_2.ext E7).keep K8 (ninS (Nat.ne_of_lt (Nat.lt_of_lt_of_le (A5.keep K6).lt sg_b7)) nin0)).keep K9 nin0) (((gF6_3.ext E7).keep K8 (ninS (Nat.ne_of_lt (Nat.lt_of_lt_of_le (A5.keep K6).lt sg_b7)) nin0)).keep K9 nin0) (gF8_0.keep K9 nin0) (gF8_1.keep K9 nin0) (gF8_2.keep K9 nin0) (gF8_3.keep K9 nin0)) hZ (ow34 hw) (ow2 hw) (by decide) (by decide)) q14a q14c (g := (mkF m 166 #[.val (.long q0), .second, .val (.long q1), .second, .val (.long q2), .second, .val (.long q3), .second, .val (.long q4), .second, .val (.int p5), .val (.int (((p5.toUInt32 >>> ((4 : Int32) &&& 31).toUInt32).toInt32) &&& (3 : Int32))), .val (.long zn2), .second, .val (.long zf2), .second, .val (.long zl2), .second, .val (.long zw2), .second, .val (.ref b5), .val (.ref b7), .val (.ref lg9), .unset, .unset] [(.ref b7), (.ref b5)])) rfl (by rw [hml]; rfl) (Steps.refl _) (argsL := [(.ref b7)]) (rest := []) (lenOf pd4 rfl) rfl (by show 2 * 0 + _ ≤ _; exact Nat.le_of_eq rfl) (hb hby at_166) (fun _ _ => ⟨rfl, rfl, (by decide : 3 + 0 ≤ _), (by decide : 9 + 0 ≤ _)⟩)
      dsimp only [Pt.U, Pt.locs, Pt.cells, Pt.slots] at X14 l14 y14 z14 st14 hQ14
      subst l14 y14 z14
      obtain ⟨rfl, N14q, hh14⟩ := hQ14
      have N14 := Fr.app N9 N14q
      refine own_go (T' := T14) (f' := (mkF m 176 #[.val (.long q0), .second, .val (.long q1), .second, .val (.long q2), .second, .val (.long q3), .second, .val (.long q4), .second, .val (.int p5), .val (.int (((p5.toUInt32 >>> ((4 : Int32) &&& 31).toUInt32).toInt32) &&& (3 : Int32))), .val (.long zn2), .second, .val (.long zf2), .second, .val (.long zl2), .second, .val (.long zw2), .second, .val (.ref b5), .val (.ref b7), .val (.ref lg9), .val (.int (own_b2i (q0 = zn2 ∧ q1 = zf2 ∧ q2 = zl2 ∧ q3 = zw2))), .unset] [(.int (p5 &&& (15 : Int32)))])) (fun _ k => st14.trans (XS.istore X14.here hx rfl (hb hby at_169) rfl (l' := #[.val (.long q0), .second, .val (.long q1), .second, .val (.long q2), .second, .val (.long q3), .second, .val (.long q4), .second, .val (.int p5), .val (.int (((p5.toUInt32 >>> ((4 : Int32) &&& 31).toUInt32).toInt32) &&& (3 : Int32))), .val (.long zn2), .second, .val (.long zf2), .second, .val (.long zl2), .second, .val (.long zw2), .second, .val (.ref b5), .val (.ref b7), .val (.ref lg9), .val (.int (own_b2i (q0 = zn2 ∧ q1 = zf2 ∧ q2 = zl2 ∧ q3 = zw2))), .unset]) rfl (XS.iload X14.here hx rfl (hb hby at_171) rfl (XS.bipush X14.here hx rfl (hb hby at_173) (XS.iand X14.here hx rfl (hb hby at_175) rfl k))))) ?_
      by_cases hc15 : (p5 &&& (15 : Int32)) = (0 : Int32)
      · refine own_go (T' := T14) (f' := (mkF m 197 #[.val (.long q0), .second, .val (.long q1), .second, .val (.long q2), .second, .val (.long q3), .second, .val (.long q4), .second, .val (.int p5), .val (.int (((p5.toUInt32 >>> ((4 : Int32) &&& 31).toUInt32).toInt32) &&& (3 : Int32))), .val (.long zn2), .second, .val (.long zf2), .second, .val (.long zl2), .second, .val (.long zw2), .second, .val (.ref b5), .val (.ref b7), .val (.ref lg9), .val (.int (own_b2i (q0 = zn2 ∧ q1 = zf2 ∧ q2 = zl2 ∧ q3 = zw2))), .val (.int (1 : Int32))] [(.int (1 : Int32)), (.int (own_b2i (q0 = zn2 ∧ q1 = zf2 ∧ q2 = zl2 ∧ q3 = zw2)))])) (fun _ k => XS.ifYes X14.here hx rfl (pc0 := 176) (pc' := 186) rfl (hb hby at_176) rfl ((if0 _ _).trans (teq hc15).1) (by decide) (by decide) (XS.iconst X14.here hx rfl (hb hby at_186) (XS.goto X14.here hx rfl (pc0 := 187) (pc' := 191) rfl (hb hby at_187) (by decide) (by decide) (XS.istore X14.here hx rfl (hb hby at_191) rfl (l' := #[.val (.long q0), .second, .val (.long q1), .second, .val (.long q2), .second, .val (.long q3), .second, .val (.long q4), .second, .val (.int p5), .val (.int (((p5.toUInt32 >>> ((4 : Int32) &&& 31).toUInt32).toInt32) &&& (3 : Int32))), .val (.long zn2), .second, .val (.long zf2), .second, .val (.long zl2), .second, .val (.long zw2), .second, .val (.ref b5), .val (.ref b7), .val (.ref lg9), .val (.int (own_b2i (q0 = zn2 ∧ q1 = zf2 ∧ q2 = zl2 ∧ q3 = zw2))), .val (.int (1 : Int32))]) rfl (XS.iload X14.here hx rfl (hb hby at_193) rfl (XS.iload X14.here hx rfl (hb hby at_195) rfl k)))))) ?_
        have hall : (q0 = zn2 ∧ q1 = zf2 ∧ q2 = zl2 ∧ q3 = zw2) ↔ ((p5 &&& (15 : Int32)) = (0 : Int32) ∨ q4 = (0 : Int64)) := by rw [← hzn2, ← hzf2, ← hzl2, ← hzw2]; exact own_eqv
        refine own_go (T' := T14) (f' := (mkF m 204 #[.val (.long q0), .second, .val (.long q1), .second, .val (.long q2), .second, .val (.long q3), .second, .val (.long q4), .second, .val (.int p5), .val (.int (((p5.toUInt32 >>> ((4 : Int32) &&& 31).toUInt32).toInt32) &&& (3 : Int32))), .val (.long zn2), .second, .val (.long zf2), .second, .val (.long zl2), .second, .val (.long zw2), .second, .val (.ref b5), .val (.ref b7), .val (.ref lg9), .val (.int (own_b2i (q0 = zn2 ∧ q1 = zf2 ∧ q2 = zl2 ∧ q3 = zw2))), .val (.int (1 : Int32))] [(.ref b5), (.ref b7)])) (fun _ k => XS.icmpNo X14.here hx rfl (hb hby at_197) rfl (teq (own_b2i_1 (hall.mpr (Or.inl hc15)))).2 (XS.aload X14.here hx rfl (hb hby at_200) rfl rfl (XS.aload X14.here hx rfl (hb hby at_202) rfl rfl k))) ?_
        obtain ⟨cq16, kq16, q16a, q16b, q16c⟩ := isOf hZ hh14 (gE8.keep K9)
        obtain ⟨_, _, ⟨T16, L16, k16, n16⟩, -, X16, ⟨Lc16, hQ16, l16, y16, z16⟩, st16⟩ := X14.virtualBack hx (y := mn5) (z := mn5) hown (mvT hZ (ow30 hw)) (mvT hZ (ow31 hw)) (notFace_of_selects (args := #[]) (mvT hZ (ow33 hw))) (mvT hZ (ow33 hw)) (mvT hZ (ow32 hw)) (by decide) (backOf (W := 0) (rm5t l Z a0 hw [] b7 b5 zn2 zf2 zl2 zw2 q0 q1 q2 q3 T9.heap n0 (Nat.le_trans (Nat.le_trans (Nat.le_trans (Nat.le_trans (Nat.le_trans Z0 E5.1) K6.1) E7.1) K8.1) K9.1) (((gE6.ext E7).keep K8).keep K9) (gF8_0.keep K9 nin0) (gF8_1.keep K9 nin0) (gF8_2.keep K9 nin0) (gF8_3.keep K9 nin0) (((gF6_0.ext E7).keep K8 (ninS (Nat.ne_of_lt (Nat.lt_of_lt_of_le (A5.keep K6).lt sg_b7)) nin0)).keep K9 nin0) (((gF6_1.ext E7).keep K8 (ninS (Nat.ne_of_lt (Nat.lt_of_lt_of_le (A5.keep K6).lt sg_b7)) nin0)).keep K9 nin0) (((gF6_2.ext E7).keep K8 (ninS (Nat.ne_of_lt (Nat.lt_of_lt_of_le (A5.keep K6).lt sg_b7)) nin0)).keep K9 nin0) (((gF6_3.ext E7).keep K8 (ninS (Nat.ne_of_lt (Nat.lt_of_lt_of_le (A5.keep K6).lt sg_b7)) nin0)).keep K9 nin0)) hZ (ow34 hw) (ow2 hw) (by decide) (by decide)) q16a q16c (g := (mkF m 204 #[.val (.long q0), .second, .val (.long q1), .second, .val (.long q2), .second, .val (.long q3), .second, .val (.long q4), .second, .val (.int p5), .val (.int (((p5.toUInt32 >>> ((4 : Int32) &&& 31).toUInt32).toInt32) &&& (3 : Int32))), .val (.long zn2), .second, .val (.long zf2), .second, .val (.long zl2), .second, .val (.long zw2), .second, .val (.ref b5), .val (.ref b7), .val (.ref lg9), .val (.int (own_b2i (q0 = zn2 ∧ q1 = zf2 ∧ q2 = zl2 ∧ q3 = zw2))), .val (.int (1 : Int32))] [(.ref b5), (.ref b7)])) rfl (by rw [hml]; rfl) (Steps.refl _) (argsL := [(.ref b5)]) (rest := []) (lenOf pd4 rfl) rfl (by show 2 * 0 + _ ≤ _; exact Nat.le_of_eq rfl) (hb hby at_204) (fun _ _ => ⟨rfl, hh14, (by decide : 3 + 0 ≤ _), (by decide : 9 + 0 ≤ _)⟩)
        dsimp only [Pt.U, Pt.locs, Pt.cells, Pt.slots] at X16 l16 y16 z16 st16 hQ16
        subst l16 y16 z16
        obtain ⟨rfl, N16q, hh16⟩ := hQ16
        have N16 := Fr.app N14 N16q
        refine own_go (T' := T16) (f' := (mkF m 216 #[.val (.long q0), .second, .val (.long q1), .second, .val (.long q2), .second, .val (.long q3), .second, .val (.long q4), .second, .val (.int p5), .val (.int (((p5.toUInt32 >>> ((4 : Int32) &&& 31).toUInt32).toInt32) &&& (3 : Int32))), .val (.long zn2), .second, .val (.long zf2), .second, .val (.long zl2), .second, .val (.long zw2), .second, .val (.ref b5), .val (.ref b7), .val (.ref lg9), .val (.int (own_b2i (q0 = zn2 ∧ q1 = zf2 ∧ q2 = zl2 ∧ q3 = zw2))), .val (.int (1 : Int32))] [(.ref b5), (.ref b5)])) (fun _ k => st16.trans (XS.iload X16.here hx rfl (hb hby at_207) rfl (XS.icmpNo X16.here hx rfl (hb hby at_209) rfl (teq (own_b2i_congr ⟨fun q => ⟨q.1.symm, q.2.1.symm, q.2.2.1.symm, q.2.2.2.symm⟩, fun q => ⟨q.1.symm, q.2.1.symm, q.2.2.1.symm, q.2.2.2.symm⟩⟩)).2 (XS.aload X16.here hx rfl (hb hby at_212) rfl rfl (XS.aload X16.here hx rfl (hb hby at_214) rfl rfl k))))) ?_
        obtain ⟨cq17, kq17, q17a, q17b, q17c⟩ := isOf hZ hh16 (((gE6.ext E7).keep K8).keep K9)
        obtain ⟨_, _, ⟨T17, L17, k17, n17⟩, -, X17, ⟨Lc17, hQ17, l17, y17, z17⟩, st17⟩ := X16.virtualBack hx (y := mn5) (z := mn5) hown (mvT hZ (ow30 hw)) (mvT hZ (ow31 hw)) (notFace_of_selects (args := #[]) (mvT hZ (ow33 hw))) (mvT hZ (ow33 hw)) (mvT hZ (ow32 hw)) (by decide) (backOf (W := 0) (rm5t l Z a0 hw [] b5 b5 q0 q1 q2 q3 q0 q1 q2 q3 T9.heap n0 (Nat.le_trans (Nat.le_trans (Nat.le_trans (Nat.le_trans (Nat.le_trans Z0 E5.1) K6.1) E7.1) K8.1) K9.1) (((gE6.ext E7).keep K8).keep K9) (((gF6_0.ext E7).keep K8 (ninS (Nat.ne_of_lt (Nat.lt_of_lt_of_le (A5.keep K6).lt sg_b7)) nin0)).keep K9 nin0) (((gF6_1.ext E7).keep K8 (ninS (Nat.ne_of_lt (Nat.lt_of_lt_of_le (A5.keep K6).lt sg_b7)) nin0)).keep K9 nin0) (((gF6_2.ext E7).keep K8 (ninS (Nat.ne_of_lt (Nat.lt_of_lt_of_le (A5.keep K6).lt sg_b7)) nin0)).keep K9 nin0) (((gF6_3.ext E7).keep K8 (ninS (Nat.ne_of_lt (Nat.lt_of_lt_of_le (A5.keep K6).lt sg_b7)) nin0)).keep K9 nin0) (((gF6_0.ext E7).keep K8 (ninS (Nat.ne_of_lt (Nat.lt_of_lt_of_le (A5.keep K6).lt sg_b7)) nin0)).keep K9 nin0) (((gF6_1.ext E7).keep K8 (ninS (Nat.ne_of_lt (Nat.lt_of_lt_of_le (A5.keep K6).lt sg_b7)) nin0)).keep K9 nin0) (((gF6_2.ext E7).keep K8 (ninS (Nat.ne_of_lt (Nat.lt_of_lt_of_le (A5.keep K6).lt sg_b7)) nin0)).keep K9 nin0) (((gF6_3.ext E7).keep K8 (ninS (Nat.ne_of_lt (Nat.lt_of_lt_of_le (A5.keep K6).lt sg_b7)) nin0)).keep K9 nin0)) hZ (ow34 hw) (ow2 hw) (by decide) (by decide)) q17a q17c (g := (mkF m 216 #[.val (.long q0), .second, .val (.long q1), .second, .val (.long q2), .second, .val (.long q3), .second, .val (.long q4), .second, .val (.int p5), .val (.int (((p5.toUInt32 >>> ((4 : Int32) &&& 31).toUInt32).toInt32) &&& (3 : Int32))), .val (.long zn2), .second, .val (.long zf2), .second, .val (.long zl2), .second, .val (.long zw2), .second, .val (.ref b5), .val (.ref b7), .val (.ref lg9), .val (.int (own_b2i (q0 = zn2 ∧ q1 = zf2 ∧ q2 = zl2 ∧ q3 = zw2))), .val (.int (1 : Int32))] [(.ref b5), (.ref b5)])) rfl (by rw [hml]; rfl) (Steps.refl _) (argsL := [(.ref b5)]) (rest := []) (lenOf pd4 rfl) rfl (by show 2 * 0 + _ ≤ _; exact Nat.le_of_eq rfl) (hb hby at_216) (fun _ _ => ⟨rfl, hh16, (by decide : 3 + 0 ≤ _), (by decide : 9 + 0 ≤ _)⟩)
        dsimp only [Pt.U, Pt.locs, Pt.cells, Pt.slots] at X17 l17 y17 z17 st17 hQ17
        subst l17 y17 z17
        obtain ⟨rfl, N17q, hh17⟩ := hQ17
        have N17 := Fr.app N16 N17q
        refine own_go (T' := T17) (f' := (mkF m 227 #[.val (.long q0), .second, .val (.long q1), .second, .val (.long q2), .second, .val (.long q3), .second, .val (.long q4), .second, .val (.int p5), .val (.int (((p5.toUInt32 >>> ((4 : Int32) &&& 31).toUInt32).toInt32) &&& (3 : Int32))), .val (.long zn2), .second, .val (.long zf2), .second, .val (.long zl2), .second, .val (.long zw2), .second, .val (.ref b5), .val (.ref b7), .val (.ref lg9), .val (.int (own_b2i (q0 = zn2 ∧ q1 = zf2 ∧ q2 = zl2 ∧ q3 = zw2))), .val (.int (1 : Int32))] [(.int (1 : Int32))])) (fun _ k => st17.trans (XS.ifNo X17.here hx rfl (hb hby at_219) rfl ((if0 _ _).trans (feq (own_b2i_t ⟨rfl, rfl, rfl, rfl⟩)).1) (XS.iconst X17.here hx rfl (hb hby at_222) (XS.goto X17.here hx rfl (pc0 := 223) (pc' := 227) rfl (hb hby at_223) (by decide) (by decide) k)))) ?_
        refine own_ret X17 (v := some (.int (1 : Int32))) (fun h => by rw [Bd.returns] at h; cases h) Bd.notSynchronized (fun fs hr => retN X17 hx (t := .boolean) Bd.returns (by simp) (hb hby at_227) hr) ?_ (by decide) (by decide)
        show Q0 Z q0 q1 q2 q3 q4 p5 wc clc h0 n0 _ T17.heap _
        exact ⟨rfl, N17⟩
      · refine own_go (T' := T14) (f' := (mkF m 183 #[.val (.long q0), .second, .val (.long q1), .second, .val (.long q2), .second, .val (.long q3), .second, .val (.long q4), .second, .val (.int p5), .val (.int (((p5.toUInt32 >>> ((4 : Int32) &&& 31).toUInt32).toInt32) &&& (3 : Int32))), .val (.long zn2), .second, .val (.long zf2), .second, .val (.long zl2), .second, .val (.long zw2), .second, .val (.ref b5), .val (.ref b7), .val (.ref lg9), .val (.int (own_b2i (q0 = zn2 ∧ q1 = zf2 ∧ q2 = zl2 ∧ q3 = zw2))), .unset] [(.int (lcmpW q4 (0 : Int64)))])) (fun _ k => XS.ifNo X14.here hx rfl (hb hby at_176) rfl ((if0 _ _).trans (feq hc15).1) (XS.lload X14.here hx rfl (hb hby at_179) rfl (XS.lconst X14.here hx rfl (hb hby at_181) (XS.lcmp X14.here hx rfl (hb hby at_182) rfl k)))) ?_
        by_cases hc18 : q4 = (0 : Int64)
        · refine own_go (T' := T14) (f' := (mkF m 197 #[.val (.long q0), .second, .val (.long q1), .second, .val (.long q2), .second, .val (.long q3), .second, .val (.long q4), .second, .val (.int p5), .val (.int (((p5.toUInt32 >>> ((4 : Int32) &&& 31).toUInt32).toInt32) &&& (3 : Int32))), .val (.long zn2), .second, .val (.long zf2), .second, .val (.long zl2), .second, .val (.long zw2), .second, .val (.ref b5), .val (.ref b7), .val (.ref lg9), .val (.int (own_b2i (q0 = zn2 ∧ q1 = zf2 ∧ q2 = zl2 ∧ q3 = zw2))), .val (.int (1 : Int32))] [(.int (1 : Int32)), (.int (own_b2i (q0 = zn2 ∧ q1 = zf2 ∧ q2 = zl2 ∧ q3 = zw2)))])) (fun _ k => XS.ifNo X14.here hx rfl (hb hby at_183) rfl ((if0 _ _).trans (teq ((own_lc_eq (a := q4) (b := (0 : Int64))).mpr hc18)).2) (XS.iconst X14.here hx rfl (hb hby at_186) (XS.goto X14.here hx rfl (pc0 := 187) (pc' := 191) rfl (hb hby at_187) (by decide) (by decide) (XS.istore X14.here hx rfl (hb hby at_191) rfl (l' := #[.val (.long q0), .second, .val (.long q1), .second, .val (.long q2), .second, .val (.long q3), .second, .val (.long q4), .second, .val (.int p5), .val (.int (((p5.toUInt32 >>> ((4 : Int32) &&& 31).toUInt32).toInt32) &&& (3 : Int32))), .val (.long zn2), .second, .val (.long zf2), .second, .val (.long zl2), .second, .val (.long zw2), .second, .val (.ref b5), .val (.ref b7), .val (.ref lg9), .val (.int (own_b2i (q0 = zn2 ∧ q1 = zf2 ∧ q2 = zl2 ∧ q3 = zw2))), .val (.int (1 : Int32))]) rfl (XS.iload X14.here hx rfl (hb hby at_193) rfl (XS.iload X14.here hx rfl (hb hby at_195) rfl k)))))) ?_
          have hall : (q0 = zn2 ∧ q1 = zf2 ∧ q2 = zl2 ∧ q3 = zw2) ↔ ((p5 &&& (15 : Int32)) = (0 : Int32) ∨ q4 = (0 : Int64)) := by rw [← hzn2, ← hzf2, ← hzl2, ← hzw2]; exact own_eqv
          refine own_go (T' := T14) (f' := (mkF m 204 #[.val (.long q0), .second, .val (.long q1), .second, .val (.long q2), .second, .val (.long q3), .second, .val (.long q4), .second, .val (.int p5), .val (.int (((p5.toUInt32 >>> ((4 : Int32) &&& 31).toUInt32).toInt32) &&& (3 : Int32))), .val (.long zn2), .second, .val (.long zf2), .second, .val (.long zl2), .second, .val (.long zw2), .second, .val (.ref b5), .val (.ref b7), .val (.ref lg9), .val (.int (own_b2i (q0 = zn2 ∧ q1 = zf2 ∧ q2 = zl2 ∧ q3 = zw2))), .val (.int (1 : Int32))] [(.ref b5), (.ref b7)])) (fun _ k => XS.icmpNo X14.here hx rfl (hb hby at_197) rfl (teq (own_b2i_1 (hall.mpr (Or.inr hc18)))).2 (XS.aload X14.here hx rfl (hb hby at_200) rfl rfl (XS.aload X14.here hx rfl (hb hby at_202) rfl rfl k))) ?_
          obtain ⟨cq19, kq19, q19a, q19b, q19c⟩ := isOf hZ hh14 (gE8.keep K9)
          obtain ⟨_, _, ⟨T19, L19, k19, n19⟩, -, X19, ⟨Lc19, hQ19, l19, y19, z19⟩, st19⟩ := X14.virtualBack hx (y := mn5) (z := mn5) hown (mvT hZ (ow30 hw)) (mvT hZ (ow31 hw)) (notFace_of_selects (args := #[]) (mvT hZ (ow33 hw))) (mvT hZ (ow33 hw)) (mvT hZ (ow32 hw)) (by decide) (backOf (W := 0) (rm5t l Z a0 hw [] b7 b5 zn2 zf2 zl2 zw2 q0 q1 q2 q3 T9.heap n0 (Nat.le_trans (Nat.le_trans (Nat.le_trans (Nat.le_trans (Nat.le_trans Z0 E5.1) K6.1) E7.1) K8.1) K9.1) (((gE6.ext E7).keep K8).keep K9) (gF8_0.keep K9 nin0) (gF8_1.keep K9 nin0) (gF8_2.keep K9 nin0) (gF8_3.keep K9 nin0) (((gF6_0.ext E7).keep K8 (ninS (Nat.ne_of_lt (Nat.lt_of_lt_of_le (A5.keep K6).lt sg_b7)) nin0)).keep K9 nin0) (((gF6_1.ext E7).keep K8 (ninS (Nat.ne_of_lt (Nat.lt_of_lt_of_le (A5.keep K6).lt sg_b7)) nin0)).keep K9 nin0) (((gF6_2.ext E7).keep K8 (ninS (Nat.ne_of_lt (Nat.lt_of_lt_of_le (A5.keep K6).lt sg_b7)) nin0)).keep K9 nin0) (((gF6_3.ext E7).keep K8 (ninS (Nat.ne_of_lt (Nat.lt_of_lt_of_le (A5.keep K6).lt sg_b7)) nin0)).keep K9 nin0)) hZ (ow34 hw) (ow2 hw) (by decide) (by decide)) q19a q19c (g := (mkF m 204 #[.val (.long q0), .second, .val (.long q1), .second, .val (.long q2), .second, .val (.long q3), .second, .val (.long q4), .second, .val (.int p5), .val (.int (((p5.toUInt32 >>> ((4 : Int32) &&& 31).toUInt32).toInt32) &&& (3 : Int32))), .val (.long zn2), .second, .val (.long zf2), .second, .val (.long zl2), .second, .val (.long zw2), .second, .val (.ref b5), .val (.ref b7), .val (.ref lg9), .val (.int (own_b2i (q0 = zn2 ∧ q1 = zf2 ∧ q2 = zl2 ∧ q3 = zw2))), .val (.int (1 : Int32))] [(.ref b5), (.ref b7)])) rfl (by rw [hml]; rfl) (Steps.refl _) (argsL := [(.ref b5)]) (rest := []) (lenOf pd4 rfl) rfl (by show 2 * 0 + _ ≤ _; exact Nat.le_of_eq rfl) (hb hby at_204) (fun _ _ => ⟨rfl, hh14, (by decide : 3 + 0 ≤ _), (by decide : 9 + 0 ≤ _)⟩)
          dsimp only [Pt.U, Pt.locs, Pt.cells, Pt.slots] at X19 l19 y19 z19 st19 hQ19
          subst l19 y19 z19
          obtain ⟨rfl, N19q, hh19⟩ := hQ19
          have N19 := Fr.app N14 N19q
          refine own_go (T' := T19) (f' := (mkF m 216 #[.val (.long q0), .second, .val (.long q1), .second, .val (.long q2), .second, .val (.long q3), .second, .val (.long q4), .second, .val (.int p5), .val (.int (((p5.toUInt32 >>> ((4 : Int32) &&& 31).toUInt32).toInt32) &&& (3 : Int32))), .val (.long zn2), .second, .val (.long zf2), .second, .val (.long zl2), .second, .val (.long zw2), .second, .val (.ref b5), .val (.ref b7), .val (.ref lg9), .val (.int (own_b2i (q0 = zn2 ∧ q1 = zf2 ∧ q2 = zl2 ∧ q3 = zw2))), .val (.int (1 : Int32))] [(.ref b5), (.ref b5)])) (fun _ k => st19.trans (XS.iload X19.here hx rfl (hb hby at_207) rfl (XS.icmpNo X19.here hx rfl (hb hby at_209) rfl (teq (own_b2i_congr ⟨fun q => ⟨q.1.symm, q.2.1.symm, q.2.2.1.symm, q.2.2.2.symm⟩, fun q => ⟨q.1.symm, q.2.1.symm, q.2.2.1.symm, q.2.2.2.symm⟩⟩)).2 (XS.aload X19.here hx rfl (hb hby at_212) rfl rfl (XS.aload X19.here hx rfl (hb hby at_214) rfl rfl k))))) ?_
          obtain ⟨cq20, kq20, q20a, q20b, q20c⟩ := isOf hZ hh19 (((gE6.ext E7).keep K8).keep K9)
          obtain ⟨_, _, ⟨T20, L20, k20, n20⟩, -, X20, ⟨Lc20, hQ20, l20, y20, z20⟩, st20⟩ := X19.virtualBack hx (y := mn5) (z := mn5) hown (mvT hZ (ow30 hw)) (mvT hZ (ow31 hw)) (notFace_of_selects (args := #[]) (mvT hZ (ow33 hw))) (mvT hZ (ow33 hw)) (mvT hZ (ow32 hw)) (by decide) (backOf (W := 0) (rm5t l Z a0 hw [] b5 b5 q0 q1 q2 q3 q0 q1 q2 q3 T9.heap n0 (Nat.le_trans (Nat.le_trans (Nat.le_trans (Nat.le_trans (Nat.le_trans Z0 E5.1) K6.1) E7.1) K8.1) K9.1) (((gE6.ext E7).keep K8).keep K9) (((gF6_0.ext E7).keep K8 (ninS (Nat.ne_of_lt (Nat.lt_of_lt_of_le (A5.keep K6).lt sg_b7)) nin0)).keep K9 nin0) (((gF6_1.ext E7).keep K8 (ninS (Nat.ne_of_lt (Nat.lt_of_lt_of_le (A5.keep K6).lt sg_b7)) nin0)).keep K9 nin0) (((gF6_2.ext E7).keep K8 (ninS (Nat.ne_of_lt (Nat.lt_of_lt_of_le (A5.keep K6).lt sg_b7)) nin0)).keep K9 nin0) (((gF6_3.ext E7).keep K8 (ninS (Nat.ne_of_lt (Nat.lt_of_lt_of_le (A5.keep K6).lt sg_b7)) nin0)).keep K9 nin0) (((gF6_0.ext E7).keep K8 (ninS (Nat.ne_of_lt (Nat.lt_of_lt_of_le (A5.keep K6).lt sg_b7)) nin0)).keep K9 nin0) (((gF6_1.ext E7).keep K8 (ninS (Nat.ne_of_lt (Nat.lt_of_lt_of_le (A5.keep K6).lt sg_b7)) nin0)).keep K9 nin0) (((gF6_2.ext E7).keep K8 (ninS (Nat.ne_of_lt (Nat.lt_of_lt_of_le (A5.keep K6).lt sg_b7)) nin0)).keep K9 nin0) (((gF6_3.ext E7).keep K8 (ninS (Nat.ne_of_lt (Nat.lt_of_lt_of_le (A5.keep K6).lt sg_b7)) nin0)).keep K9 nin0)) hZ (ow34 hw) (ow2 hw) (by decide) (by decide)) q20a q20c (g := (mkF m 216 #[.val (.long q0), .second, .val (.long q1), .second, .val (.long q2), .second, .val (.long q3), .second, .val (.long q4), .second, .val (.int p5), .val (.int (((p5.toUInt32 >>> ((4 : Int32) &&& 31).toUInt32).toInt32) &&& (3 : Int32))), .val (.long zn2), .second, .val (.long zf2), .second, .val (.long zl2), .second, .val (.long zw2), .second, .val (.ref b5), .val (.ref b7), .val (.ref lg9), .val (.int (own_b2i (q0 = zn2 ∧ q1 = zf2 ∧ q2 = zl2 ∧ q3 = zw2))), .val (.int (1 : Int32))] [(.ref b5), (.ref b5)])) rfl (by rw [hml]; rfl) (Steps.refl _) (argsL := [(.ref b5)]) (rest := []) (lenOf pd4 rfl) rfl (by show 2 * 0 + _ ≤ _; exact Nat.le_of_eq rfl) (hb hby at_216) (fun _ _ => ⟨rfl, hh19, (by decide : 3 + 0 ≤ _), (by decide : 9 + 0 ≤ _)⟩)
          dsimp only [Pt.U, Pt.locs, Pt.cells, Pt.slots] at X20 l20 y20 z20 st20 hQ20
          subst l20 y20 z20
          obtain ⟨rfl, N20q, hh20⟩ := hQ20
          have N20 := Fr.app N19 N20q
          refine own_go (T' := T20) (f' := (mkF m 227 #[.val (.long q0), .second, .val (.long q1), .second, .val (.long q2), .second, .val (.long q3), .second, .val (.long q4), .second, .val (.int p5), .val (.int (((p5.toUInt32 >>> ((4 : Int32) &&& 31).toUInt32).toInt32) &&& (3 : Int32))), .val (.long zn2), .second, .val (.long zf2), .second, .val (.long zl2), .second, .val (.long zw2), .second, .val (.ref b5), .val (.ref b7), .val (.ref lg9), .val (.int (own_b2i (q0 = zn2 ∧ q1 = zf2 ∧ q2 = zl2 ∧ q3 = zw2))), .val (.int (1 : Int32))] [(.int (1 : Int32))])) (fun _ k => st20.trans (XS.ifNo X20.here hx rfl (hb hby at_219) rfl ((if0 _ _).trans (feq (own_b2i_t ⟨rfl, rfl, rfl, rfl⟩)).1) (XS.iconst X20.here hx rfl (hb hby at_222) (XS.goto X20.here hx rfl (pc0 := 223) (pc' := 227) rfl (hb hby at_223) (by decide) (by decide) k)))) ?_
          refine own_ret X20 (v := some (.int (1 : Int32))) (fun h => by rw [Bd.returns] at h; cases h) Bd.notSynchronized (fun fs hr => retN X20 hx (t := .boolean) Bd.returns (by simp) (hb hby at_227) hr) ?_ (by decide) (by decide)
          show Q0 Z q0 q1 q2 q3 q4 p5 wc clc h0 n0 _ T20.heap _
          exact ⟨rfl, N20⟩
        · refine own_go (T' := T14) (f' := (mkF m 197 #[.val (.long q0), .second, .val (.long q1), .second, .val (.long q2), .second, .val (.long q3), .second, .val (.long q4), .second, .val (.int p5), .val (.int (((p5.toUInt32 >>> ((4 : Int32) &&& 31).toUInt32).toInt32) &&& (3 : Int32))), .val (.long zn2), .second, .val (.long zf2), .second, .val (.long zl2), .second, .val (.long zw2), .second, .val (.ref b5), .val (.ref b7), .val (.ref lg9), .val (.int (own_b2i (q0 = zn2 ∧ q1 = zf2 ∧ q2 = zl2 ∧ q3 = zw2))), .val (.int (0 : Int32))] [(.int (0 : Int32)), (.int (own_b2i (q0 = zn2 ∧ q1 = zf2 ∧ q2 = zl2 ∧ q3 = zw2)))])) (fun _ k => XS.ifYes X14.here hx rfl (pc0 := 183) (pc' := 190) rfl (hb hby at_183) rfl ((if0 _ _).trans (feq ((not_congr (own_lc_eq (a := q4) (b := (0 : Int64)))).mpr hc18)).2) (by decide) (by decide) (XS.iconst X14.here hx rfl (hb hby at_190) (XS.istore X14.here hx rfl (hb hby at_191) rfl (l' := #[.val (.long q0), .second, .val (.long q1), .second, .val (.long q2), .second, .val (.long q3), .second, .val (.long q4), .second, .val (.int p5), .val (.int (((p5.toUInt32 >>> ((4 : Int32) &&& 31).toUInt32).toInt32) &&& (3 : Int32))), .val (.long zn2), .second, .val (.long zf2), .second, .val (.long zl2), .second, .val (.long zw2), .second, .val (.ref b5), .val (.ref b7), .val (.ref lg9), .val (.int (own_b2i (q0 = zn2 ∧ q1 = zf2 ∧ q2 = zl2 ∧ q3 = zw2))), .val (.int (0 : Int32))]) rfl (XS.iload X14.here hx rfl (hb hby at_193) rfl (XS.iload X14.here hx rfl (hb hby at_195) rfl k))))) ?_
          have hall : (q0 = zn2 ∧ q1 = zf2 ∧ q2 = zl2 ∧ q3 = zw2) ↔ ((p5 &&& (15 : Int32)) = (0 : Int32) ∨ q4 = (0 : Int64)) := by rw [← hzn2, ← hzf2, ← hzl2, ← hzw2]; exact own_eqv
          refine own_go (T' := T14) (f' := (mkF m 204 #[.val (.long q0), .second, .val (.long q1), .second, .val (.long q2), .second, .val (.long q3), .second, .val (.long q4), .second, .val (.int p5), .val (.int (((p5.toUInt32 >>> ((4 : Int32) &&& 31).toUInt32).toInt32) &&& (3 : Int32))), .val (.long zn2), .second, .val (.long zf2), .second, .val (.long zl2), .second, .val (.long zw2), .second, .val (.ref b5), .val (.ref b7), .val (.ref lg9), .val (.int (own_b2i (q0 = zn2 ∧ q1 = zf2 ∧ q2 = zl2 ∧ q3 = zw2))), .val (.int (0 : Int32))] [(.ref b5), (.ref b7)])) (fun _ k => XS.icmpNo X14.here hx rfl (hb hby at_197) rfl (teq (own_b2i_f (fun q => (hall.mp q).elim hc15 hc18))).2 (XS.aload X14.here hx rfl (hb hby at_200) rfl rfl (XS.aload X14.here hx rfl (hb hby at_202) rfl rfl k))) ?_
          obtain ⟨cq21, kq21, q21a, q21b, q21c⟩ := isOf hZ hh14 (gE8.keep K9)
          obtain ⟨_, _, ⟨T21, L21, k21, n21⟩, -, X21, ⟨Lc21, hQ21, l21, y21, z21⟩, st21⟩ := X14.virtualBack hx (y := mn5) (z := mn5) hown (mvT hZ (ow30 hw)) (mvT hZ (ow31 hw)) (notFace_of_selects (args := #[]) (mvT hZ (ow33 hw))) (mvT hZ (ow33 hw)) (mvT hZ (ow32 hw)) (by decide) (backOf (W := 0) (rm5t l Z a0 hw [] b7 b5 zn2 zf2 zl2 zw2 q0 q1 q2 q3 T9.heap n0 (Nat.le_trans (Nat.le_trans (Nat.le_trans (Nat.le_trans (Nat.le_trans Z0 E5.1) K6.1) E7.1) K8.1) K9.1) (((gE6.ext E7).keep K8).keep K9) (gF8_0.keep K9 nin0) (gF8_1.keep K9 nin0) (gF8_2.keep K9 nin0) (gF8_3.keep K9 nin0) (((gF6_0.ext E7).keep K8 (ninS (Nat.ne_of_lt (Nat.lt_of_lt_of_le (A5.keep K6).lt sg_b7)) nin0)).keep K9 nin0) (((gF6_1.ext E7).keep K8 (ninS (Nat.ne_of_lt (Nat.lt_of_lt_of_le (A5.keep K6).lt sg_b7)) nin0)).keep K9 nin0) (((gF6_2.ext E7).keep K8 (ninS (Nat.ne_of_lt (Nat.lt_of_lt_of_le (A5.keep K6).lt sg_b7)) nin0)).keep K9 nin0) (((gF6_3.ext E7).keep K8 (ninS (Nat.ne_of_lt (Nat.lt_of_lt_of_le (A5.keep K6).lt sg_b7)) nin0)).keep K9 nin0)) hZ (ow34 hw) (ow2 hw) (by decide) (by decide)) q21a q21c (g := (mkF m 204 #[.val (.long q0), .second, .val (.long q1), .second, .val (.long q2), .second, .val (.long q3), .second, .val (.long q4), .second, .val (.int p5), .val (.int (((p5.toUInt32 >>> ((4 : Int32) &&& 31).toUInt32).toInt32) &&& (3 : Int32))), .val (.long zn2), .second, .val (.long zf2), .second, .val (.long zl2), .second, .val (.long zw2), .second, .val (.ref b5), .val (.ref b7), .val (.ref lg9), .val (.int (own_b2i (q0 = zn2 ∧ q1 = zf2 ∧ q2 = zl2 ∧ q3 = zw2))), .val (.int (0 : Int32))] [(.ref b5), (.ref b7)])) rfl (by rw [hml]; rfl) (Steps.refl _) (argsL := [(.ref b5)]) (rest := []) (lenOf pd4 rfl) rfl (by show 2 * 0 + _ ≤ _; exact Nat.le_of_eq rfl) (hb hby at_204) (fun _ _ => ⟨rfl, hh14, (by decide : 3 + 0 ≤ _), (by decide : 9 + 0 ≤ _)⟩)
          dsimp only [Pt.U, Pt.locs, Pt.cells, Pt.slots] at X21 l21 y21 z21 st21 hQ21
          subst l21 y21 z21
          obtain ⟨rfl, N21q, hh21⟩ := hQ21
          have N21 := Fr.app N14 N21q
          refine own_go (T' := T21) (f' := (mkF m 216 #[.val (.long q0), .second, .val (.long q1), .second, .val (.long q2), .second, .val (.long q3), .second, .val (.long q4), .second, .val (.int p5), .val (.int (((p5.toUInt32 >>> ((4 : Int32) &&& 31).toUInt32).toInt32) &&& (3 : Int32))), .val (.long zn2), .second, .val (.long zf2), .second, .val (.long zl2), .second, .val (.long zw2), .second, .val (.ref b5), .val (.ref b7), .val (.ref lg9), .val (.int (own_b2i (q0 = zn2 ∧ q1 = zf2 ∧ q2 = zl2 ∧ q3 = zw2))), .val (.int (0 : Int32))] [(.ref b5), (.ref b5)])) (fun _ k => st21.trans (XS.iload X21.here hx rfl (hb hby at_207) rfl (XS.icmpNo X21.here hx rfl (hb hby at_209) rfl (teq (own_b2i_congr ⟨fun q => ⟨q.1.symm, q.2.1.symm, q.2.2.1.symm, q.2.2.2.symm⟩, fun q => ⟨q.1.symm, q.2.1.symm, q.2.2.1.symm, q.2.2.2.symm⟩⟩)).2 (XS.aload X21.here hx rfl (hb hby at_212) rfl rfl (XS.aload X21.here hx rfl (hb hby at_214) rfl rfl k))))) ?_
          obtain ⟨cq22, kq22, q22a, q22b, q22c⟩ := isOf hZ hh21 (((gE6.ext E7).keep K8).keep K9)
          obtain ⟨_, _, ⟨T22, L22, k22, n22⟩, -, X22, ⟨Lc22, hQ22, l22, y22, z22⟩, st22⟩ := X21.virtualBack hx (y := mn5) (z := mn5) hown (mvT hZ (ow30 hw)) (mvT hZ (ow31 hw)) (notFace_of_selects (args := #[]) (mvT hZ (ow33 hw))) (mvT hZ (ow33 hw)) (mvT hZ (ow32 hw)) (by decide) (backOf (W := 0) (rm5t l Z a0 hw [] b5 b5 q0 q1 q2 q3 q0 q1 q2 q3 T9.heap n0 (Nat.le_trans (Nat.le_trans (Nat.le_trans (Nat.le_trans (Nat.le_trans Z0 E5.1) K6.1) E7.1) K8.1) K9.1) (((gE6.ext E7).keep K8).keep K9) (((gF6_0.ext E7).keep K8 (ninS (Nat.ne_of_lt (Nat.lt_of_lt_of_le (A5.keep K6).lt sg_b7)) nin0)).keep K9 nin0) (((gF6_1.ext E7).keep K8 (ninS (Nat.ne_of_lt (Nat.lt_of_lt_of_le (A5.keep K6).lt sg_b7)) nin0)).keep K9 nin0) (((gF6_2.ext E7).keep K8 (ninS (Nat.ne_of_lt (Nat.lt_of_lt_of_le (A5.keep K6).lt sg_b7)) nin0)).keep K9 nin0) (((gF6_3.ext E7).keep K8 (ninS (Nat.ne_of_lt (Nat.lt_of_lt_of_le (A5.keep K6).lt sg_b7)) nin0)).keep K9 nin0) (((gF6_0.ext E7).keep K8 (ninS (Nat.ne_of_lt (Nat.lt_of_lt_of_le (A5.keep K6).lt sg_b7)) nin0)).keep K9 nin0) (((gF6_1.ext E7).keep K8 (ninS (Nat.ne_of_lt (Nat.lt_of_lt_of_le (A5.keep K6).lt sg_b7)) nin0)).keep K9 nin0) (((gF6_2.ext E7).keep K8 (ninS (Nat.ne_of_lt (Nat.lt_of_lt_of_le (A5.keep K6).lt sg_b7)) nin0)).keep K9 nin0) (((gF6_3.ext E7).keep K8 (ninS (Nat.ne_of_lt (Nat.lt_of_lt_of_le (A5.keep K6).lt sg_b7)) nin0)).keep K9 nin0)) hZ (ow34 hw) (ow2 hw) (by decide) (by decide)) q22a q22c (g := (mkF m 216 #[.val (.long q0), .second, .val (.long q1), .second, .val (.long q2), .second, .val (.long q3), .second, .val (.long q4), .second, .val (.int p5), .val (.int (((p5.toUInt32 >>> ((4 : Int32) &&& 31).toUInt32).toInt32) &&& (3 : Int32))), .val (.long zn2), .second, .val (.long zf2), .second, .val (.long zl2), .second, .val (.long zw2), .second, .val (.ref b5), .val (.ref b7), .val (.ref lg9), .val (.int (own_b2i (q0 = zn2 ∧ q1 = zf2 ∧ q2 = zl2 ∧ q3 = zw2))), .val (.int (0 : Int32))] [(.ref b5), (.ref b5)])) rfl (by rw [hml]; rfl) (Steps.refl _) (argsL := [(.ref b5)]) (rest := []) (lenOf pd4 rfl) rfl (by show 2 * 0 + _ ≤ _; exact Nat.le_of_eq rfl) (hb hby at_216) (fun _ _ => ⟨rfl, hh21, (by decide : 3 + 0 ≤ _), (by decide : 9 + 0 ≤ _)⟩)
          dsimp only [Pt.U, Pt.locs, Pt.cells, Pt.slots] at X22 l22 y22 z22 st22 hQ22
          subst l22 y22 z22
          obtain ⟨rfl, N22q, hh22⟩ := hQ22
          have N22 := Fr.app N21 N22q
          refine own_go (T' := T22) (f' := (mkF m 227 #[.val (.long q0), .second, .val (.long q1), .second, .val (.long q2), .second, .val (.long q3), .second, .val (.long q4), .second, .val (.int p5), .val (.int (((p5.toUInt32 >>> ((4 : Int32) &&& 31).toUInt32).toInt32) &&& (3 : Int32))), .val (.long zn2), .second, .val (.long zf2), .second, .val (.long zl2), .second, .val (.long zw2), .second, .val (.ref b5), .val (.ref b7), .val (.ref lg9), .val (.int (own_b2i (q0 = zn2 ∧ q1 = zf2 ∧ q2 = zl2 ∧ q3 = zw2))), .val (.int (0 : Int32))] [(.int (1 : Int32))])) (fun _ k => st22.trans (XS.ifNo X22.here hx rfl (hb hby at_219) rfl ((if0 _ _).trans (feq (own_b2i_t ⟨rfl, rfl, rfl, rfl⟩)).1) (XS.iconst X22.here hx rfl (hb hby at_222) (XS.goto X22.here hx rfl (pc0 := 223) (pc' := 227) rfl (hb hby at_223) (by decide) (by decide) k)))) ?_
          refine own_ret X22 (v := some (.int (1 : Int32))) (fun h => by rw [Bd.returns] at h; cases h) Bd.notSynchronized (fun fs hr => retN X22 hx (t := .boolean) Bd.returns (by simp) (hb hby at_227) hr) ?_ (by decide) (by decide)
          show Q0 Z q0 q1 q2 q3 q4 p5 wc clc h0 n0 _ T22.heap _
          exact ⟨rfl, N22⟩
theorem own_cache {s : State} {args : Array Value} (h : ∀ d ∈ jdkStatics_1, d.before args s = true) : ∃ (wc : Addr) (clc : Cell), Sta s s.heap "java/lang/Long$LongCache" "cache" "[Ljava/lang/Long;" (.ref wc) ∧ Arr s s.heap wc clc (.object "java/lang/Long") ∧ clc.slots.size = 256 ∧ ∀ j : Int32, ¬ (j < 0 ∨ 256 ≤ j.toNatClampNeg) → ∃ y : Addr, clc.slots[j.toNatClampNeg]? = some (.ref y) ∧ Exa s s.heap y "java/lang/Long" := by
  have H := fun (k : Nat) (d : Jvm.Cond) (e : jdkStatics_1[k]? = some d) => h d (List.mem_of_getElem? e)
  obtain ⟨wc, ev⟩ := exa_v (Cond.before_iff.mp (H 3 _ rfl))
  have S_c := Sta.start ev (Or.inl (H 1 _ rfl))
  obtain ⟨clc, A⟩ := Arr.start ev (Cond.before_iff.mp (H 2 _ rfl))
  obtain ⟨hsz, hsize⟩ := Jvm.Free.IntBox.length_fwd (H 4 _ rfl) ev A.1 A.2.1 A.2.2
  have hsz256 : clc.slots.size = 256 := by
    have e : (clc.slots.size.toInt32).toInt = clc.slots.size := len_toInt hsz
    rw [hsize] at e
    have : ((256 : Int32)).toInt = 256 := by decide
    omega
  refine ⟨wc, clc, S_c, A, hsz256, fun j hj => ?_⟩
  have hat := Jvm.Free.IntBox.arrayAt_of A.1 A.2.1 A.2.2
  have hall := Cond.all_elim ev hat (Cond.before_iff.mp (H 5 _ rfl))
  have hlt : j.toNatClampNeg < clc.slots.size := by rw [hsz256]; exact Nat.lt_of_not_le fun q => hj (Or.inr q)
  have hv := hall _ hlt
  obtain ⟨hex, -⟩ := and_e hv
  obtain ⟨y, c', cell, k, e1, e2, e3, e4, e5, rfl, e7⟩ := Cond.exactly_spec (by simpa [Cond.holds] using hex)
  have evi : (Jvm.Term.static "java/lang/Long$LongCache" "cache" "[Ljava/lang/Long;").eval args s none [j.toNatClampNeg] s = some (.ref wc) := by rw [← ev]; rfl
  obtain ⟨hnn, hback⟩ := Jvm.Free.IntBox.place_nonneg j.toNatClampNeg (by rw [← hsz256]; exact hlt)
  have e0 := elem_f (a := .index 0) evi rfl hat hnn
  rw [hback] at e0
  exact ⟨y, e0.symm.trans e1, cell, k, e3, e2, e4, e5, e7⟩
set_option maxRecDepth 65536 in
set_option maxHeartbeats 40000000 in
theorem comes_1 {Post : Tables → Env → Array Value → State → Outcome → State → Prop} (hpost : ∀ tb e args s v u, (limb_1_1.after args s (.returned v) u = true ∧ limb_1_2.after args s (.returned v) u = true ∧ True) → FrameEnd s (.returned v) u (Jvm.fieldLocs frame_1_writes args s ++ Jvm.arrayLocs frame_1_arrays args s ++ Jvm.staticLocs frame_1_statics s) 16 128 → Post tb e args s (.returned v) u) :
    ArmFor flags0 classFile x code maxLocals ret World_1 tables_1 room_1 Calls_1 rest_1 Pre_1 Post := by
  intro l hfl _ _ p e ha hc hk s m args below hf hA hF happ hP
  obtain ⟨hcalls, hrest, hpre⟩ := hP
  obtain ⟨-, -, -, hnamed, -, -, -, hat⟩ := (Spec.applies_iff hf).mp happ
  obtain ⟨hg, hn⟩ := and_e (Cond.before_iff.mp (show (Jvm.Cond.and given_1 narrow_1).before args s = true from hpre))
  obtain ⟨hg_2, hg_3⟩ := and_e hg
  obtain ⟨hg_4, hg_5⟩ := and_e hg_3
  obtain ⟨hg_6, hg_7⟩ := and_e hg_5
  obtain ⟨hg_8, hg_9⟩ := and_e hg_7
  obtain ⟨hg_10, hg_11⟩ := and_e hg_9
  obtain ⟨hg_12, hg_13⟩ := and_e hg_11
  obtain ⟨w0, w1, w2, w3, w4, w5, rfl⟩ : ∃ w0 w1 w2 w3 w4 w5 : Value, args = #[w0, w1, w2, w3, w4, w5] := by
    have hs : args.size = 6 := by simpa [Cond.value, given_1] using hg_2
    obtain ⟨L⟩ := args
    match L, hs with
    | [w0, w1, w2, w3, w4, w5], _ => exact ⟨w0, w1, w2, w3, w4, w5, rfl⟩
  have hw := fun d (hd : d ∈ tables_1) => atoms_spec (ws := Jvm.Cond.code x code maxLocals ret :: tables_1) hat d (List.mem_cons_of_mem _ hd)
  have hfit : Fit s := fun {y c} hc i hi => by
    obtain ⟨ha, rfl⟩ := Array.getElem?_eq_some_iff.mp hc
    have q := List.all_eq_true.mp ((Array.all_eq_true_iff_forall_mem.mp hF) _ (Array.getElem_mem ha)) i (List.mem_range.mpr hi)
    simpa [Array.getElem?_eq_getElem hi] using q
  obtain ⟨hsets, hown0⟩ := atoms_of _ (rest_1_c_eq ▸ (show rest_1_c.before _ s = true from hrest))
  have hr0 := Cond.before_iff.mp hown0
  obtain ⟨i0, ei0⟩ := isL_v hg_4
  obtain rfl : w0 = (.long i0) := Option.some.inj ei0
  obtain ⟨i1, ei1⟩ := isL_v hg_6
  obtain rfl : w1 = (.long i1) := Option.some.inj ei1
  obtain ⟨i2, ei2⟩ := isL_v hg_8
  obtain rfl : w2 = (.long i2) := Option.some.inj ei2
  obtain ⟨i3, ei3⟩ := isL_v hg_10
  obtain rfl : w3 = (.long i3) := Option.some.inj ei3
  obtain ⟨i4, ei4⟩ := isL_v hg_12
  obtain rfl : w4 = (.long i4) := Option.some.inj ei4
  obtain ⟨i5, ei5⟩ := is_v hg_13
  obtain rfl : w5 = (.int i5) := Option.some.inj ei5
  obtain ⟨wc, clc, S_c, A_c, hsz, hel⟩ := own_cache (fun d hd => hsets d hd)
  obtain ⟨n, o, h1, h2, h3, _, L, rfl, ⟨rfl, N⟩, hq⟩ := rm0 l s _ hw tables_1 i0 i1 i2 i3 i4 i5 wc clc s.heap s.heap.size (Nat.le_refl _) S_c A_c hsz hel p e ha hc hk s m _ below hf ((Spec.applies_iff_loose hf).mp happ).1 ⟨rfl, State.Warmed39.refl s, rfl⟩ trivial
  refine ⟨n, _, h1, h2, h3, hpost _ _ _ _ _ _ ⟨Cond.after_iff.mpr rfl, Cond.after_iff.mpr (eq_i res_at (Term.int_eval (1)) rfl), trivial⟩ ⟨hq.1, hq.2.1, (hq.2.2.sift fun y hy => Or.inr (N y hy)).mono (by decide) (by decide)⟩⟩
theorem main_1_1 : Claimed_1_1 := comes_1 fun _ _ _ _ _ _ h hF => ⟨h.1, hF⟩
theorem main_1_2 : Claimed_1_2 := comes_1 fun _ _ _ _ _ _ h hF => ⟨h.2.1, hF⟩
end Jvm.Pilot.@@N@@
namespace Jvm.Pilot.@@N@@
open Jvm Jvm.ClassFile Sem Op Lib Jvm.Free Jvm.Stand Jvm.Pilot.@@N@@.Jvm.D
/-! MADE BY PROGRAM (witnessworld.py) out of the Statement's table words and the real class files: 17 classes; the members and pool entries that the words name. The judged class is class 1, her method 1. -/
namespace start1
open Jvm.ClassFile
def u (s : String) : CpInfo := .utf8 (stringToUtf16 s)
/-- a pool by its gaps: so many unusable entries, then the entry; so many at the end -/
def gap : Nat → List CpInfo → List CpInfo
  | 0, r => r
  | n + 1, r => .unusable :: gap n r
def poolList (es : List (Nat × CpInfo)) (last : Nat) : List CpInfo := es.foldr (fun e r => gap e.1 (e.2 :: r)) (gap last [])
def pool (es : List (Nat × CpInfo)) (last : Nat) : Array CpInfo := ⟨poolList es last⟩
def fileOf (pool : Array CpInfo) (this : Nat) (attrs : Array Attribute := #[]) (ms : Array MethodInfo := #[]) (fl : Nat := 33) (sup : Nat := 0) (ifs : Array Nat := #[]) (fds : Array FieldInfo := #[]) : ClassFile where
  minorVersion := 0
  majorVersion := 65
  constantPool := pool
  accessFlags := fl
  thisClass := this
  superClass := sup
  interfaces := ifs
  fields := fds
  methods := ms
  attributes := attrs
def plain (name : String) (sup : Option ClassId) : Class where
  name := name
  kind := .ordinary
  loader := none
  accessFlags := 33
  super := sup
  interfaces := #[]
  cf := none
  fields := #[]
  methods := #[]
  instanceTypes := #[]
  staticTypes := #[]
  resolved := #[]
  callSites := []
  init := .initialized
  statics := none
  mirror := none

def pool0 : Array CpInfo := pool [(5, u "<init>"), (0, u "()V"), (1, .class_ 10), (1, u "java/lang/Object")] 113

def k0c0 : Code := { maxStack := 0, maxLocals := 1, code := object_method_1_code, exceptionTable := #[], attributes := #[] }
def k0m0 : Method := { name := "<init>", desc := "()V", sig := { parameters := [], returnType := none }, accessFlags := 1, code := some k0c0 }
/-- java/lang/Object -/
def k0 : Class := { plain "java/lang/Object" none with
  accessFlags := 33
  interfaces := #[]
  cf := some (fileOf pool0 8 #[] #[{ accessFlags := 1, nameIndex := 5, descriptorIndex := 6, attributes := #[] }] 33 0 #[] #[])
  fields := #[]
  methods := #[k0m0]
  instanceTypes := #[]
  staticTypes := #[]
  resolved := Array.replicate 124 none
  statics := none }

def pool1 : Array CpInfo := pool [(2, .class_ 4), (1, u "java/lang/Object"), (0, u "<init>"), (0, u "()V"), (0, .class_ 8), (0, u "com/example/aliquot/aliquot/Task"), (0, .methodref 7 10), (0, .nameAndType 5 11), (0, u "(JJJJ)V"), (0, .methodref 13 14), (0, .class_ 15), (0, .nameAndType 16 17), (0, u "java/lang/Long"), (0, u "valueOf"), (0, u "(J)Ljava/lang/Long;"), (0, .methodref 7 19), (0, .nameAndType 20 21), (0, u "equals"), (0, u "(Ljava/lang/Object;)Z"), (0, .class_ 23), (0, u "com/example/aliquot/aliquot/TaskEqualsPinLaw"), (2, u "law"), (0, u "(JJJJJI)Z")] 3

def k1m0 : Method := { name := "<init>", desc := "()V", sig := { parameters := [], returnType := none }, accessFlags := 1, code := none }
def k1c1 : Code := { maxStack := 10, maxLocals := 25, code := code, exceptionTable := #[], attributes := #[] }
def k1m1 : Method := { name := "law", desc := "(JJJJJI)Z", sig := { parameters := [.long, .long, .long, .long, .long, .int], returnType := some .boolean }, accessFlags := 9, code := some k1c1 }
/-- com/example/aliquot/aliquot/TaskEqualsPinLaw -/
def k1 : Class := { plain "com/example/aliquot/aliquot/TaskEqualsPinLaw" (some 0) with
  accessFlags := 49
  interfaces := #[]
  cf := some (fileOf pool1 22 #[] #[{ accessFlags := 1, nameIndex := 5, descriptorIndex := 6, attributes := #[] }, { accessFlags := 9, nameIndex := 26, descriptorIndex := 27, attributes := #[] }] 49 2 #[] #[])
  fields := #[]
  methods := #[k1m0, k1m1]
  instanceTypes := #[]
  staticTypes := #[]
  resolved := Array.replicate 31 none
  statics := none }

def pool2 : Array CpInfo := pool [(1, .methodref 2 3), (0, .class_ 4), (0, .nameAndType 5 6), (0, u "java/lang/Object"), (0, u "<init>"), (0, u "()V"), (0, .class_ 8), (0, u "java/lang/Record")] 13

def k2c0 : Code := { maxStack := 1, maxLocals := 1, code := jdk_30_method_1_code, exceptionTable := #[], attributes := #[] }
def k2m0 : Method := { name := "<init>", desc := "()V", sig := { parameters := [], returnType := none }, accessFlags := 4, code := some k2c0 }
/-- java/lang/Record -/
def k2 : Class := { plain "java/lang/Record" (some 0) with
  accessFlags := 1057
  interfaces := #[]
  cf := some (fileOf pool2 7 #[] #[{ accessFlags := 4, nameIndex := 5, descriptorIndex := 6, attributes := #[] }] 1057 2 #[] #[])
  fields := #[]
  methods := #[k2m0]
  instanceTypes := #[]
  staticTypes := #[]
  resolved := Array.replicate 22 none
  statics := none }

def pool3 : Array CpInfo := pool [(1, .methodref 2 3), (0, .class_ 4), (0, .nameAndType 5 6), (0, u "java/lang/Record"), (0, u "<init>"), (0, u "()V"), (0, .fieldref 8 9), (0, .class_ 10), (0, .nameAndType 11 12), (0, u "com/example/aliquot/aliquot/Task"), (0, u "number"), (0, u "J"), (0, .fieldref 8 14), (0, .nameAndType 15 12), (0, u "firstRecord"), (0, .fieldref 8 17), (0, .nameAndType 18 12), (0, u "lastRecord"), (0, .fieldref 8 20), (0, .nameAndType 21 12), (0, u "firstWithoutIdentifier"), (17, u "(JJJJ)V"), (3, u "equals"), (0, u "(Ljava/lang/Object;)Z")] 39

def k3c0 : Code := { maxStack := 3, maxLocals := 9, code := prog_85_method_1_code, exceptionTable := #[], attributes := #[] }
def k3m0 : Method := { name := "<init>", desc := "(JJJJ)V", sig := { parameters := [.long, .long, .long, .long], returnType := none }, accessFlags := 0, code := some k3c0 }
def k3c1 : Code := { maxStack := 4, maxLocals := 3, code := prog_85_method_2_code, exceptionTable := #[], attributes := #[] }
def k3m1 : Method := { name := "equals", desc := "(Ljava/lang/Object;)Z", sig := { parameters := [(.object "java/lang/Object")], returnType := some .boolean }, accessFlags := 1, code := some k3c1 }
/-- com/example/aliquot/aliquot/Task -/
def k3 : Class := { plain "com/example/aliquot/aliquot/Task" (some 2) with
  accessFlags := 48
  interfaces := #[]
  cf := some (fileOf pool3 8 #[] #[{ accessFlags := 0, nameIndex := 5, descriptorIndex := 39, attributes := #[] }, { accessFlags := 1, nameIndex := 43, descriptorIndex := 44, attributes := #[] }] 48 2 #[] #[{ accessFlags := 18, nameIndex := 11, descriptorIndex := 12, attributes := #[] }, { accessFlags := 18, nameIndex := 15, descriptorIndex := 12, attributes := #[] }, { accessFlags := 18, nameIndex := 18, descriptorIndex := 12, attributes := #[] }, { accessFlags := 18, nameIndex := 21, descriptorIndex := 12, attributes := #[] }])
  fields := #[{ name := "number", type := .long, accessFlags := 18, slot := 0, constantValue := 0 }, { name := "firstRecord", type := .long, accessFlags := 18, slot := 1, constantValue := 0 }, { name := "lastRecord", type := .long, accessFlags := 18, slot := 2, constantValue := 0 }, { name := "firstWithoutIdentifier", type := .long, accessFlags := 18, slot := 3, constantValue := 0 }]
  methods := #[k3m0, k3m1]
  instanceTypes := #[.long, .long, .long, .long]
  staticTypes := #[]
  resolved := Array.replicate 84 none
  statics := none }

def pool4 : Array CpInfo := pool [(1, .class_ 2), (0, u "java/io/Serializable"), (0, .class_ 4), (0, u "java/lang/Object")] 2

/-- java/io/Serializable -/
def k4 : Class := { plain "java/io/Serializable" (some 0) with
  accessFlags := 1537
  interfaces := #[]
  cf := some (fileOf pool4 1 #[] #[] 1537 3 #[] #[])
  fields := #[]
  methods := #[]
  instanceTypes := #[]
  staticTypes := #[]
  resolved := Array.replicate 7 none
  statics := none }

def pool5 : Array CpInfo := pool [(1, .methodref 2 3), (0, .class_ 4), (0, .nameAndType 5 6), (0, u "java/lang/Object"), (0, u "<init>"), (0, u "()V"), (1, .class_ 10), (1, u "java/lang/Number"), (2, .class_ 14), (0, u "java/io/Serializable"), (0, u "serialVersionUID"), (0, u "J")] 20

def k5c0 : Code := { maxStack := 1, maxLocals := 1, code := jdk_18_method_1_code, exceptionTable := #[], attributes := #[] }
def k5m0 : Method := { name := "<init>", desc := "()V", sig := { parameters := [], returnType := none }, accessFlags := 1, code := some k5c0 }
/-- java/lang/Number -/
def k5 : Class := { plain "java/lang/Number" (some 0) with
  accessFlags := 1057
  interfaces := #[4]
  cf := some (fileOf pool5 8 #[] #[{ accessFlags := 1, nameIndex := 5, descriptorIndex := 6, attributes := #[] }] 1057 2 #[13] #[{ accessFlags := 26, nameIndex := 15, descriptorIndex := 16, attributes := #[] }])
  fields := #[{ name := "serialVersionUID", type := .long, accessFlags := 26, slot := 0, constantValue := 0 }]
  methods := #[k5m0]
  instanceTypes := #[]
  staticTypes := #[.long]
  resolved := Array.replicate 37 none
  statics := none }

def pool6 : Array CpInfo := pool [(1, .class_ 2), (0, u "java/lang/Comparable"), (0, .class_ 4), (0, u "java/lang/Object")] 7

/-- java/lang/Comparable -/
def k6 : Class := { plain "java/lang/Comparable" (some 0) with
  accessFlags := 1537
  interfaces := #[]
  cf := some (fileOf pool6 1 #[] #[] 1537 3 #[] #[])
  fields := #[]
  methods := #[]
  instanceTypes := #[]
  staticTypes := #[]
  resolved := Array.replicate 12 none
  statics := none }

def pool7 : Array CpInfo := pool [(1, .class_ 2), (0, u "java/lang/constant/Constable"), (0, .class_ 4), (0, u "java/lang/Object")] 6

/-- java/lang/constant/Constable -/
def k7 : Class := { plain "java/lang/constant/Constable" (some 0) with
  accessFlags := 1537
  interfaces := #[]
  cf := some (fileOf pool7 1 #[] #[] 1537 3 #[] #[])
  fields := #[]
  methods := #[]
  instanceTypes := #[]
  staticTypes := #[]
  resolved := Array.replicate 11 none
  statics := none }

def pool8 : Array CpInfo := pool [(1, .class_ 2), (0, u "java/lang/constant/ConstantDesc"), (0, .class_ 4), (0, u "java/lang/Object")] 32

/-- java/lang/constant/ConstantDesc -/
def k8 : Class := { plain "java/lang/constant/ConstantDesc" (some 0) with
  accessFlags := 1537
  interfaces := #[]
  cf := some (fileOf pool8 1 #[] #[] 1537 3 #[] #[])
  fields := #[]
  methods := #[]
  instanceTypes := #[]
  staticTypes := #[]
  resolved := Array.replicate 37 none
  statics := none }

def pool9 : Array CpInfo := pool [(1, .class_ 2), (0, u "java/lang/Long"), (55, .nameAndType 59 60), (0, u "<init>"), (0, u "()V"), (24, u "valueOf"), (143, u "(J)Ljava/lang/Long;"), (0, .long 18446744073709551488), (1, .long 127), (1, .fieldref 235 236), (0, .class_ 237), (0, .nameAndType 238 239), (0, u "java/lang/Long$LongCache"), (0, u "cache"), (0, u "[Ljava/lang/Long;"), (0, .methodref 1 241), (0, .nameAndType 59 242), (0, u "(J)V"), (27, .methodref 271 58), (0, .class_ 272), (0, u "java/lang/Number"), (0, .fieldref 1 274), (0, .nameAndType 275 276), (0, u "value"), (0, u "J"), (84, u "TYPE"), (0, u "Ljava/lang/Class;"), (0, .class_ 364), (0, u "java/lang/Comparable"), (0, .class_ 366), (0, u "java/lang/constant/Constable"), (0, .class_ 368), (0, u "java/lang/constant/ConstantDesc"), (0, u "MIN_VALUE"), (1, u "MAX_VALUE"), (4, u "SIZE"), (0, u "I"), (1, u "BYTES"), (1, u "serialVersionUID")] 142

def k9c0 : Code := { maxStack := 4, maxLocals := 3, code := jdk_35_method_24_code, exceptionTable := #[], attributes := #[] }
def k9m0 : Method := { name := "valueOf", desc := "(J)Ljava/lang/Long;", sig := { parameters := [.long], returnType := some (.object "java/lang/Long") }, accessFlags := 9, code := some k9c0 }
def k9c1 : Code := { maxStack := 3, maxLocals := 3, code := jdk_35_method_26_code, exceptionTable := #[], attributes := #[] }
def k9m1 : Method := { name := "<init>", desc := "(J)V", sig := { parameters := [.long], returnType := none }, accessFlags := 1, code := some k9c1 }
/-- java/lang/Long -/
def k9 : Class := { plain "java/lang/Long" (some 5) with
  accessFlags := 49
  interfaces := #[6, 7, 8]
  cf := some (fileOf pool9 1 #[.nestMembers #[235]] #[{ accessFlags := 9, nameIndex := 85, descriptorIndex := 229, attributes := #[] }, { accessFlags := 1, nameIndex := 59, descriptorIndex := 242, attributes := #[] }] 49 271 #[363, 365, 367] #[{ accessFlags := 25, nameIndex := 369, descriptorIndex := 276, attributes := #[] }, { accessFlags := 25, nameIndex := 371, descriptorIndex := 276, attributes := #[] }, { accessFlags := 25, nameIndex := 361, descriptorIndex := 362, attributes := #[] }, { accessFlags := 18, nameIndex := 275, descriptorIndex := 276, attributes := #[] }, { accessFlags := 25, nameIndex := 376, descriptorIndex := 377, attributes := #[] }, { accessFlags := 25, nameIndex := 379, descriptorIndex := 377, attributes := #[] }, { accessFlags := 26, nameIndex := 381, descriptorIndex := 276, attributes := #[] }])
  fields := #[{ name := "MIN_VALUE", type := .long, accessFlags := 25, slot := 0, constantValue := 0 }, { name := "MAX_VALUE", type := .long, accessFlags := 25, slot := 1, constantValue := 0 }, { name := "TYPE", type := (.object "java/lang/Class"), accessFlags := 25, slot := 2, constantValue := 0 }, { name := "value", type := .long, accessFlags := 18, slot := 0, constantValue := 0 }, { name := "SIZE", type := .int, accessFlags := 25, slot := 3, constantValue := 0 }, { name := "BYTES", type := .int, accessFlags := 25, slot := 4, constantValue := 0 }, { name := "serialVersionUID", type := .long, accessFlags := 26, slot := 5, constantValue := 0 }]
  methods := #[k9m0, k9m1]
  instanceTypes := #[.long]
  staticTypes := #[.long, .long, (.object "java/lang/Class"), .int, .int, .long]
  resolved := Array.replicate 524 none
  statics := none }

def pool10 : Array CpInfo := pool [(2, .class_ 4), (1, u "java/lang/Object"), (0, u "<init>"), (0, u "()V"), (0, .class_ 8), (0, u "java/lang/Long"), (7, .class_ 18), (1, u "java/lang/Long$LongCache"), (0, u "$assertionsDisabled"), (0, u "Z"), (8, u "archivedCache"), (0, u "[Ljava/lang/Long;"), (7, u "cache")] 24

def k10m0 : Method := { name := "<init>", desc := "()V", sig := { parameters := [], returnType := none }, accessFlags := 2, code := none }
/-- java/lang/Long$LongCache -/
def k10 : Class := { plain "java/lang/Long$LongCache" (some 0) with
  accessFlags := 48
  interfaces := #[]
  cf := some (fileOf pool10 16 #[.nestHost 7] #[{ accessFlags := 2, nameIndex := 5, descriptorIndex := 6, attributes := #[] }] 48 2 #[] #[{ accessFlags := 24, nameIndex := 38, descriptorIndex := 30, attributes := #[] }, { accessFlags := 8, nameIndex := 29, descriptorIndex := 30, attributes := #[] }, { accessFlags := 4120, nameIndex := 19, descriptorIndex := 20, attributes := #[] }])
  fields := #[{ name := "cache", type := (.array (.object "java/lang/Long")), accessFlags := 24, slot := 0, constantValue := 0 }, { name := "archivedCache", type := (.array (.object "java/lang/Long")), accessFlags := 8, slot := 1, constantValue := 0 }, { name := "$assertionsDisabled", type := .boolean, accessFlags := 4120, slot := 2, constantValue := 0 }]
  methods := #[k10m0]
  instanceTypes := #[]
  staticTypes := #[(.array (.object "java/lang/Long")), (.array (.object "java/lang/Long")), .boolean]
  resolved := Array.replicate 63 none
  statics := some 0 }

def pool11 : Array CpInfo := pool [(1, u "java/lang/Cloneable"), (0, .class_ 1), (0, u "java/lang/Object"), (0, .class_ 3)] 3

/-- java/lang/Cloneable -/
def k11 : Class := { plain "java/lang/Cloneable" (some 0) with
  accessFlags := 1537
  interfaces := #[]
  cf := some (fileOf pool11 2 #[] #[] 1537 4 #[] #[])
  fields := #[]
  methods := #[]
  instanceTypes := #[]
  staticTypes := #[]
  resolved := Array.replicate 8 none
  statics := none }

/-- the primitive byte -/
def k12 : Class := { plain "byte" none with kind := .primitive 'B', accessFlags := 0x411 }
/-- [B -/
def k13 : Class := { plain "[B" (some 0) with kind := .array 12 .byte, interfaces := #[11, 4], accessFlags := 1041 }

/-- the primitive int -/
def k14 : Class := { plain "int" none with kind := .primitive 'I', accessFlags := 0x411 }
/-- [I -/
def k15 : Class := { plain "[I" (some 0) with kind := .array 14 .int, interfaces := #[11, 4], accessFlags := 1041 }

/-- [Ljava/lang/Long; -/
def k16 : Class := { plain "[Ljava/lang/Long;" (some 0) with kind := .array 9 (.object "java/lang/Long"), interfaces := #[11, 4], accessFlags := 1041 }

def heap : Heap := #[{ cls := 10, slots := #[.ref 1, .null, .int 0], vm := .statics 10 },
  { cls := 16, slots := #[.ref 2, .ref 3, .ref 4, .ref 5, .ref 6, .ref 7, .ref 8, .ref 9, .ref 10, .ref 11, .ref 12, .ref 13, .ref 14, .ref 15, .ref 16, .ref 17, .ref 18, .ref 19, .ref 20, .ref 21, .ref 22, .ref 23, .ref 24, .ref 25, .ref 26, .ref 27, .ref 28, .ref 29, .ref 30, .ref 31, .ref 32, .ref 33, .ref 34, .ref 35, .ref 36, .ref 37, .ref 38, .ref 39, .ref 40, .ref 41, .ref 42, .ref 43, .ref 44, .ref 45, .ref 46, .ref 47, .ref 48, .ref 49, .ref 50, .ref 51, .ref 52, .ref 53, .ref 54, .ref 55, .ref 56, .ref 57, .ref 58, .ref 59, .ref 60, .ref 61, .ref 62, .ref 63, .ref 64, .ref 65, .ref 66, .ref 67, .ref 68, .ref 69, .ref 70, .ref 71, .ref 72, .ref 73, .ref 74, .ref 75, .ref 76, .ref 77, .ref 78, .ref 79, .ref 80, .ref 81, .ref 82, .ref 83, .ref 84, .ref 85, .ref 86, .ref 87, .ref 88, .ref 89, .ref 90, .ref 91, .ref 92, .ref 93, .ref 94, .ref 95, .ref 96, .ref 97, .ref 98, .ref 99, .ref 100, .ref 101, .ref 102, .ref 103, .ref 104, .ref 105, .ref 106, .ref 107, .ref 108, .ref 109, .ref 110, .ref 111, .ref 112, .ref 113, .ref 114, .ref 115, .ref 116, .ref 117, .ref 118, .ref 119, .ref 120, .ref 121, .ref 122, .ref 123, .ref 124, .ref 125, .ref 126, .ref 127, .ref 128, .ref 129, .ref 130, .ref 131, .ref 132, .ref 133, .ref 134, .ref 135, .ref 136, .ref 137, .ref 138, .ref 139, .ref 140, .ref 141, .ref 142, .ref 143, .ref 144, .ref 145, .ref 146, .ref 147, .ref 148, .ref 149, .ref 150, .ref 151, .ref 152, .ref 153, .ref 154, .ref 155, .ref 156, .ref 157, .ref 158, .ref 159, .ref 160, .ref 161, .ref 162, .ref 163, .ref 164, .ref 165, .ref 166, .ref 167, .ref 168, .ref 169, .ref 170, .ref 171, .ref 172, .ref 173, .ref 174, .ref 175, .ref 176, .ref 177, .ref 178, .ref 179, .ref 180, .ref 181, .ref 182, .ref 183, .ref 184, .ref 185, .ref 186, .ref 187, .ref 188, .ref 189, .ref 190, .ref 191, .ref 192, .ref 193, .ref 194, .ref 195, .ref 196, .ref 197, .ref 198, .ref 199, .ref 200, .ref 201, .ref 202, .ref 203, .ref 204, .ref 205, .ref 206, .ref 207, .ref 208, .ref 209, .ref 210, .ref 211, .ref 212, .ref 213, .ref 214, .ref 215, .ref 216, .ref 217, .ref 218, .ref 219, .ref 220, .ref 221, .ref 222, .ref 223, .ref 224, .ref 225, .ref 226, .ref 227, .ref 228, .ref 229, .ref 230, .ref 231, .ref 232, .ref 233, .ref 234, .ref 235, .ref 236, .ref 237, .ref 238, .ref 239, .ref 240, .ref 241, .ref 242, .ref 243, .ref 244, .ref 245, .ref 246, .ref 247, .ref 248, .ref 249, .ref 250, .ref 251, .ref 252, .ref 253, .ref 254, .ref 255, .ref 256, .ref 257], vm := .none },
  { cls := 9, slots := #[.long (-128)], vm := .none },
  { cls := 9, slots := #[.long (-127)], vm := .none },
  { cls := 9, slots := #[.long (-126)], vm := .none },
  { cls := 9, slots := #[.long (-125)], vm := .none },
  { cls := 9, slots := #[.long (-124)], vm := .none },
  { cls := 9, slots := #[.long (-123)], vm := .none },
  { cls := 9, slots := #[.long (-122)], vm := .none },
  { cls := 9, slots := #[.long (-121)], vm := .none },
  { cls := 9, slots := #[.long (-120)], vm := .none },
  { cls := 9, slots := #[.long (-119)], vm := .none },
  { cls := 9, slots := #[.long (-118)], vm := .none },
  { cls := 9, slots := #[.long (-117)], vm := .none },
  { cls := 9, slots := #[.long (-116)], vm := .none },
  { cls := 9, slots := #[.long (-115)], vm := .none },
  { cls := 9, slots := #[.long (-114)], vm := .none },
  { cls := 9, slots := #[.long (-113)], vm := .none },
  { cls := 9, slots := #[.long (-112)], vm := .none },
  { cls := 9, slots := #[.long (-111)], vm := .none },
  { cls := 9, slots := #[.long (-110)], vm := .none },
  { cls := 9, slots := #[.long (-109)], vm := .none },
  { cls := 9, slots := #[.long (-108)], vm := .none },
  { cls := 9, slots := #[.long (-107)], vm := .none },
  { cls := 9, slots := #[.long (-106)], vm := .none },
  { cls := 9, slots := #[.long (-105)], vm := .none },
  { cls := 9, slots := #[.long (-104)], vm := .none },
  { cls := 9, slots := #[.long (-103)], vm := .none },
  { cls := 9, slots := #[.long (-102)], vm := .none },
  { cls := 9, slots := #[.long (-101)], vm := .none },
  { cls := 9, slots := #[.long (-100)], vm := .none },
  { cls := 9, slots := #[.long (-99)], vm := .none },
  { cls := 9, slots := #[.long (-98)], vm := .none },
  { cls := 9, slots := #[.long (-97)], vm := .none },
  { cls := 9, slots := #[.long (-96)], vm := .none },
  { cls := 9, slots := #[.long (-95)], vm := .none },
  { cls := 9, slots := #[.long (-94)], vm := .none },
  { cls := 9, slots := #[.long (-93)], vm := .none },
  { cls := 9, slots := #[.long (-92)], vm := .none },
  { cls := 9, slots := #[.long (-91)], vm := .none },
  { cls := 9, slots := #[.long (-90)], vm := .none },
  { cls := 9, slots := #[.long (-89)], vm := .none },
  { cls := 9, slots := #[.long (-88)], vm := .none },
  { cls := 9, slots := #[.long (-87)], vm := .none },
  { cls := 9, slots := #[.long (-86)], vm := .none },
  { cls := 9, slots := #[.long (-85)], vm := .none },
  { cls := 9, slots := #[.long (-84)], vm := .none },
  { cls := 9, slots := #[.long (-83)], vm := .none },
  { cls := 9, slots := #[.long (-82)], vm := .none },
  { cls := 9, slots := #[.long (-81)], vm := .none },
  { cls := 9, slots := #[.long (-80)], vm := .none },
  { cls := 9, slots := #[.long (-79)], vm := .none },
  { cls := 9, slots := #[.long (-78)], vm := .none },
  { cls := 9, slots := #[.long (-77)], vm := .none },
  { cls := 9, slots := #[.long (-76)], vm := .none },
  { cls := 9, slots := #[.long (-75)], vm := .none },
  { cls := 9, slots := #[.long (-74)], vm := .none },
  { cls := 9, slots := #[.long (-73)], vm := .none },
  { cls := 9, slots := #[.long (-72)], vm := .none },
  { cls := 9, slots := #[.long (-71)], vm := .none },
  { cls := 9, slots := #[.long (-70)], vm := .none },
  { cls := 9, slots := #[.long (-69)], vm := .none },
  { cls := 9, slots := #[.long (-68)], vm := .none },
  { cls := 9, slots := #[.long (-67)], vm := .none },
  { cls := 9, slots := #[.long (-66)], vm := .none },
  { cls := 9, slots := #[.long (-65)], vm := .none },
  { cls := 9, slots := #[.long (-64)], vm := .none },
  { cls := 9, slots := #[.long (-63)], vm := .none },
  { cls := 9, slots := #[.long (-62)], vm := .none },
  { cls := 9, slots := #[.long (-61)], vm := .none },
  { cls := 9, slots := #[.long (-60)], vm := .none },
  { cls := 9, slots := #[.long (-59)], vm := .none },
  { cls := 9, slots := #[.long (-58)], vm := .none },
  { cls := 9, slots := #[.long (-57)], vm := .none },
  { cls := 9, slots := #[.long (-56)], vm := .none },
  { cls := 9, slots := #[.long (-55)], vm := .none },
  { cls := 9, slots := #[.long (-54)], vm := .none },
  { cls := 9, slots := #[.long (-53)], vm := .none },
  { cls := 9, slots := #[.long (-52)], vm := .none },
  { cls := 9, slots := #[.long (-51)], vm := .none },
  { cls := 9, slots := #[.long (-50)], vm := .none },
  { cls := 9, slots := #[.long (-49)], vm := .none },
  { cls := 9, slots := #[.long (-48)], vm := .none },
  { cls := 9, slots := #[.long (-47)], vm := .none },
  { cls := 9, slots := #[.long (-46)], vm := .none },
  { cls := 9, slots := #[.long (-45)], vm := .none },
  { cls := 9, slots := #[.long (-44)], vm := .none },
  { cls := 9, slots := #[.long (-43)], vm := .none },
  { cls := 9, slots := #[.long (-42)], vm := .none },
  { cls := 9, slots := #[.long (-41)], vm := .none },
  { cls := 9, slots := #[.long (-40)], vm := .none },
  { cls := 9, slots := #[.long (-39)], vm := .none },
  { cls := 9, slots := #[.long (-38)], vm := .none },
  { cls := 9, slots := #[.long (-37)], vm := .none },
  { cls := 9, slots := #[.long (-36)], vm := .none },
  { cls := 9, slots := #[.long (-35)], vm := .none },
  { cls := 9, slots := #[.long (-34)], vm := .none },
  { cls := 9, slots := #[.long (-33)], vm := .none },
  { cls := 9, slots := #[.long (-32)], vm := .none },
  { cls := 9, slots := #[.long (-31)], vm := .none },
  { cls := 9, slots := #[.long (-30)], vm := .none },
  { cls := 9, slots := #[.long (-29)], vm := .none },
  { cls := 9, slots := #[.long (-28)], vm := .none },
  { cls := 9, slots := #[.long (-27)], vm := .none },
  { cls := 9, slots := #[.long (-26)], vm := .none },
  { cls := 9, slots := #[.long (-25)], vm := .none },
  { cls := 9, slots := #[.long (-24)], vm := .none },
  { cls := 9, slots := #[.long (-23)], vm := .none },
  { cls := 9, slots := #[.long (-22)], vm := .none },
  { cls := 9, slots := #[.long (-21)], vm := .none },
  { cls := 9, slots := #[.long (-20)], vm := .none },
  { cls := 9, slots := #[.long (-19)], vm := .none },
  { cls := 9, slots := #[.long (-18)], vm := .none },
  { cls := 9, slots := #[.long (-17)], vm := .none },
  { cls := 9, slots := #[.long (-16)], vm := .none },
  { cls := 9, slots := #[.long (-15)], vm := .none },
  { cls := 9, slots := #[.long (-14)], vm := .none },
  { cls := 9, slots := #[.long (-13)], vm := .none },
  { cls := 9, slots := #[.long (-12)], vm := .none },
  { cls := 9, slots := #[.long (-11)], vm := .none },
  { cls := 9, slots := #[.long (-10)], vm := .none },
  { cls := 9, slots := #[.long (-9)], vm := .none },
  { cls := 9, slots := #[.long (-8)], vm := .none },
  { cls := 9, slots := #[.long (-7)], vm := .none },
  { cls := 9, slots := #[.long (-6)], vm := .none },
  { cls := 9, slots := #[.long (-5)], vm := .none },
  { cls := 9, slots := #[.long (-4)], vm := .none },
  { cls := 9, slots := #[.long (-3)], vm := .none },
  { cls := 9, slots := #[.long (-2)], vm := .none },
  { cls := 9, slots := #[.long (-1)], vm := .none },
  { cls := 9, slots := #[.long 0], vm := .none },
  { cls := 9, slots := #[.long 1], vm := .none },
  { cls := 9, slots := #[.long 2], vm := .none },
  { cls := 9, slots := #[.long 3], vm := .none },
  { cls := 9, slots := #[.long 4], vm := .none },
  { cls := 9, slots := #[.long 5], vm := .none },
  { cls := 9, slots := #[.long 6], vm := .none },
  { cls := 9, slots := #[.long 7], vm := .none },
  { cls := 9, slots := #[.long 8], vm := .none },
  { cls := 9, slots := #[.long 9], vm := .none },
  { cls := 9, slots := #[.long 10], vm := .none },
  { cls := 9, slots := #[.long 11], vm := .none },
  { cls := 9, slots := #[.long 12], vm := .none },
  { cls := 9, slots := #[.long 13], vm := .none },
  { cls := 9, slots := #[.long 14], vm := .none },
  { cls := 9, slots := #[.long 15], vm := .none },
  { cls := 9, slots := #[.long 16], vm := .none },
  { cls := 9, slots := #[.long 17], vm := .none },
  { cls := 9, slots := #[.long 18], vm := .none },
  { cls := 9, slots := #[.long 19], vm := .none },
  { cls := 9, slots := #[.long 20], vm := .none },
  { cls := 9, slots := #[.long 21], vm := .none },
  { cls := 9, slots := #[.long 22], vm := .none },
  { cls := 9, slots := #[.long 23], vm := .none },
  { cls := 9, slots := #[.long 24], vm := .none },
  { cls := 9, slots := #[.long 25], vm := .none },
  { cls := 9, slots := #[.long 26], vm := .none },
  { cls := 9, slots := #[.long 27], vm := .none },
  { cls := 9, slots := #[.long 28], vm := .none },
  { cls := 9, slots := #[.long 29], vm := .none },
  { cls := 9, slots := #[.long 30], vm := .none },
  { cls := 9, slots := #[.long 31], vm := .none },
  { cls := 9, slots := #[.long 32], vm := .none },
  { cls := 9, slots := #[.long 33], vm := .none },
  { cls := 9, slots := #[.long 34], vm := .none },
  { cls := 9, slots := #[.long 35], vm := .none },
  { cls := 9, slots := #[.long 36], vm := .none },
  { cls := 9, slots := #[.long 37], vm := .none },
  { cls := 9, slots := #[.long 38], vm := .none },
  { cls := 9, slots := #[.long 39], vm := .none },
  { cls := 9, slots := #[.long 40], vm := .none },
  { cls := 9, slots := #[.long 41], vm := .none },
  { cls := 9, slots := #[.long 42], vm := .none },
  { cls := 9, slots := #[.long 43], vm := .none },
  { cls := 9, slots := #[.long 44], vm := .none },
  { cls := 9, slots := #[.long 45], vm := .none },
  { cls := 9, slots := #[.long 46], vm := .none },
  { cls := 9, slots := #[.long 47], vm := .none },
  { cls := 9, slots := #[.long 48], vm := .none },
  { cls := 9, slots := #[.long 49], vm := .none },
  { cls := 9, slots := #[.long 50], vm := .none },
  { cls := 9, slots := #[.long 51], vm := .none },
  { cls := 9, slots := #[.long 52], vm := .none },
  { cls := 9, slots := #[.long 53], vm := .none },
  { cls := 9, slots := #[.long 54], vm := .none },
  { cls := 9, slots := #[.long 55], vm := .none },
  { cls := 9, slots := #[.long 56], vm := .none },
  { cls := 9, slots := #[.long 57], vm := .none },
  { cls := 9, slots := #[.long 58], vm := .none },
  { cls := 9, slots := #[.long 59], vm := .none },
  { cls := 9, slots := #[.long 60], vm := .none },
  { cls := 9, slots := #[.long 61], vm := .none },
  { cls := 9, slots := #[.long 62], vm := .none },
  { cls := 9, slots := #[.long 63], vm := .none },
  { cls := 9, slots := #[.long 64], vm := .none },
  { cls := 9, slots := #[.long 65], vm := .none },
  { cls := 9, slots := #[.long 66], vm := .none },
  { cls := 9, slots := #[.long 67], vm := .none },
  { cls := 9, slots := #[.long 68], vm := .none },
  { cls := 9, slots := #[.long 69], vm := .none },
  { cls := 9, slots := #[.long 70], vm := .none },
  { cls := 9, slots := #[.long 71], vm := .none },
  { cls := 9, slots := #[.long 72], vm := .none },
  { cls := 9, slots := #[.long 73], vm := .none },
  { cls := 9, slots := #[.long 74], vm := .none },
  { cls := 9, slots := #[.long 75], vm := .none },
  { cls := 9, slots := #[.long 76], vm := .none },
  { cls := 9, slots := #[.long 77], vm := .none },
  { cls := 9, slots := #[.long 78], vm := .none },
  { cls := 9, slots := #[.long 79], vm := .none },
  { cls := 9, slots := #[.long 80], vm := .none },
  { cls := 9, slots := #[.long 81], vm := .none },
  { cls := 9, slots := #[.long 82], vm := .none },
  { cls := 9, slots := #[.long 83], vm := .none },
  { cls := 9, slots := #[.long 84], vm := .none },
  { cls := 9, slots := #[.long 85], vm := .none },
  { cls := 9, slots := #[.long 86], vm := .none },
  { cls := 9, slots := #[.long 87], vm := .none },
  { cls := 9, slots := #[.long 88], vm := .none },
  { cls := 9, slots := #[.long 89], vm := .none },
  { cls := 9, slots := #[.long 90], vm := .none },
  { cls := 9, slots := #[.long 91], vm := .none },
  { cls := 9, slots := #[.long 92], vm := .none },
  { cls := 9, slots := #[.long 93], vm := .none },
  { cls := 9, slots := #[.long 94], vm := .none },
  { cls := 9, slots := #[.long 95], vm := .none },
  { cls := 9, slots := #[.long 96], vm := .none },
  { cls := 9, slots := #[.long 97], vm := .none },
  { cls := 9, slots := #[.long 98], vm := .none },
  { cls := 9, slots := #[.long 99], vm := .none },
  { cls := 9, slots := #[.long 100], vm := .none },
  { cls := 9, slots := #[.long 101], vm := .none },
  { cls := 9, slots := #[.long 102], vm := .none },
  { cls := 9, slots := #[.long 103], vm := .none },
  { cls := 9, slots := #[.long 104], vm := .none },
  { cls := 9, slots := #[.long 105], vm := .none },
  { cls := 9, slots := #[.long 106], vm := .none },
  { cls := 9, slots := #[.long 107], vm := .none },
  { cls := 9, slots := #[.long 108], vm := .none },
  { cls := 9, slots := #[.long 109], vm := .none },
  { cls := 9, slots := #[.long 110], vm := .none },
  { cls := 9, slots := #[.long 111], vm := .none },
  { cls := 9, slots := #[.long 112], vm := .none },
  { cls := 9, slots := #[.long 113], vm := .none },
  { cls := 9, slots := #[.long 114], vm := .none },
  { cls := 9, slots := #[.long 115], vm := .none },
  { cls := 9, slots := #[.long 116], vm := .none },
  { cls := 9, slots := #[.long 117], vm := .none },
  { cls := 9, slots := #[.long 118], vm := .none },
  { cls := 9, slots := #[.long 119], vm := .none },
  { cls := 9, slots := #[.long 120], vm := .none },
  { cls := 9, slots := #[.long 121], vm := .none },
  { cls := 9, slots := #[.long 122], vm := .none },
  { cls := 9, slots := #[.long 123], vm := .none },
  { cls := 9, slots := #[.long 124], vm := .none },
  { cls := 9, slots := #[.long 125], vm := .none },
  { cls := 9, slots := #[.long 126], vm := .none },
  { cls := 9, slots := #[.long 127], vm := .none }]
def classes : Array Class := #[k0, k1, k2, k3, k4, k5, k6, k7, k8, k9, k10, k11, k12, k13, k14, k15, k16]
def interned : List (Array UInt16 × Addr) := []
def slotsUsed : Nat := 515
def theMethod : MethodId := ⟨1, 1⟩
def args0 : Array Value := #[.long 5, .long 5, .long 5, .long 5, .long 5, .int 3]
def aboutOver (below : List Frame) : State where
  vm := { classes := classes, interned := interned.toArray }
  heap := heap
  slotsUsed := slotsUsed
  threads := #[{ frames := .invoking theMethod args0 :: below }]
def below0 : List Frame := [.native { method := ⟨0, 0⟩, args := #[] }]
def about1 : State := aboutOver below0
def p0 : Program := .bare "" "" ""
def e0 : Env := launch0.env 0 0 0
theorem w_frames : about1.frames = Frame.invoking theMethod args0 :: below0 := rfl
set_option maxRecDepth 65536 in
theorem w_args : argsFit about1.vm theMethod args0 = true := by decide +kernel
set_option maxRecDepth 65536 in
theorem w_heap : heapFits about1 = true := by decide +kernel
set_option maxRecDepth 65536 in
theorem w_runnable : about1.curStatus? = some .runnable := by decide +kernel
set_option maxRecDepth 65536 in
theorem w_alone : about1.alone = true := by decide +kernel
set_option maxRecDepth 65536 in
theorem w_named : about1.methodNamed? x = some theMethod := by decide +kernel
set_option maxRecDepth 65536 in
theorem w_hears : about1.hears theMethod below0 = true := by decide +kernel
set_option maxRecDepth 65536 in
theorem w_ripe : about1.ripe theMethod args0 below0 = true := by decide +kernel
theorem w_running : about1.status = .running := rfl
set_option maxRecDepth 65536 in
theorem w_room : about1.hasRoom e0.platform room_1 = true :=
  launch0.hasRoom_least _ room_1 (by decide +kernel) (by decide +kernel) (by decide +kernel) (by decide +kernel) (by decide +kernel) (by decide +kernel)
theorem allAtoms_all (ts : List Jvm.Cond) (a : Array Jvm.Value) (st : Jvm.State) : (allAtoms ts).before a st = ts.all (fun c => c.before a st) := by
  induction ts with
  | nil => rfl
  | cons c t ih =>
    show (Jvm.Cond.and c (allAtoms t)).before a st = _
    rw [Jvm.Cond.before_and, ih, List.all_cons]
def words1 : List Jvm.Cond := Jvm.Cond.code x code maxLocals ret :: tables_1
/-- a 'code' word, met by the world's own term for the bytes: nothing is compared byte by byte -/
theorem code_word {y : MethodName} {bytes : ByteArray} {mx : Nat} {rt : Option FieldType} {a : Array Value} {s : State} {m : MethodId} {meth : Method} {c : Code} (h1 : s.methodNamed? y = some m) (h2 : s.vm.method? m = some meth) (h3 : meth.code = some c) (h4 : c.code = bytes)
    (h5 : (c.maxLocals == mx && c.exceptionTable.isEmpty && decide (c.maxStack ≤ mostOperands) && decide (meth.sig.returnType = rt) && !meth.locks && decide (parseMethodDescriptor y.desc = some meth.sig)) = true) : (Jvm.Cond.code y bytes mx rt).before a s = true := by
  simp only [Bool.and_eq_true, beq_iff_eq, Bool.not_eq_true', decide_eq_true_eq] at h5
  obtain ⟨⟨⟨⟨⟨g1, g2⟩, g3⟩, g4⟩, g5⟩, g6⟩ := h5
  simp [Cond.before, Cond.holds, Cond.value, h1, h2, h3, h4, g1, g2, g3, g4, g5, g6]
def isCode : Jvm.Cond → Bool
  | .code _ _ _ _ => true
  | _ => false
theorem all_split {L : List Jvm.Cond} {P : Jvm.Cond → Bool} (h1 : L.all (fun c => isCode c || P c) = true) (h2 : ∀ c ∈ L.filter isCode, P c = true) : L.all P = true := by
  refine List.all_eq_true.mpr fun c hc => ?_
  have h := List.all_eq_true.mp h1 c hc
  rcases Bool.eq_false_or_eq_true (isCode c) with hi | hi
  · exact h2 c (List.mem_filter.mpr ⟨hc, hi⟩)
  · simpa [hi] using h
set_option maxRecDepth 65536 in
theorem w_c0 : (Jvm.Cond.code x code maxLocals ret).before args0 about1 = true := code_word (m := ⟨1, 1⟩) (meth := k1m1) (c := k1c1) (by decide +kernel) rfl rfl rfl (by decide +kernel)
set_option maxRecDepth 65536 in
theorem w_c1 : (Jvm.Cond.code ({ cls := "com/example/aliquot/aliquot/Task", name := "<init>", desc := "(JJJJ)V" } : Jvm.MethodName) prog_85_method_1_code (9 : Nat) (Option.none : Option Jvm.ClassFile.FieldType)).before args0 about1 = true := code_word (m := ⟨3, 0⟩) (meth := k3m0) (c := k3c0) (by decide +kernel) rfl rfl rfl (by decide +kernel)
set_option maxRecDepth 65536 in
theorem w_c2 : (Jvm.Cond.code ({ cls := "java/lang/Record", name := "<init>", desc := "()V" } : Jvm.MethodName) jdk_30_method_1_code (1 : Nat) (Option.none : Option Jvm.ClassFile.FieldType)).before args0 about1 = true := code_word (m := ⟨2, 0⟩) (meth := k2m0) (c := k2c0) (by decide +kernel) rfl rfl rfl (by decide +kernel)
set_option maxRecDepth 65536 in
theorem w_c3 : (Jvm.Cond.code ({ cls := "java/lang/Object", name := "<init>", desc := "()V" } : Jvm.MethodName) object_method_1_code (1 : Nat) (Option.none : Option Jvm.ClassFile.FieldType)).before args0 about1 = true := code_word (m := ⟨0, 0⟩) (meth := k0m0) (c := k0c0) (by decide +kernel) rfl rfl rfl (by decide +kernel)
set_option maxRecDepth 65536 in
theorem w_c4 : (Jvm.Cond.code ({ cls := "java/lang/Long", name := "valueOf", desc := "(J)Ljava/lang/Long;" } : Jvm.MethodName) jdk_35_method_24_code (3 : Nat) (Option.some (Jvm.ClassFile.FieldType.object "java/lang/Long"))).before args0 about1 = true := code_word (m := ⟨9, 0⟩) (meth := k9m0) (c := k9c0) (by decide +kernel) rfl rfl rfl (by decide +kernel)
set_option maxRecDepth 65536 in
theorem w_c5 : (Jvm.Cond.code ({ cls := "com/example/aliquot/aliquot/Task", name := "equals", desc := "(Ljava/lang/Object;)Z" } : Jvm.MethodName) prog_85_method_2_code (3 : Nat) (Option.some Jvm.ClassFile.FieldType.boolean)).before args0 about1 = true := code_word (m := ⟨3, 1⟩) (meth := k3m1) (c := k3c1) (by decide +kernel) rfl rfl rfl (by decide +kernel)
set_option maxRecDepth 65536 in
theorem w_c6 : (Jvm.Cond.code ({ cls := "java/lang/Long", name := "<init>", desc := "(J)V" } : Jvm.MethodName) jdk_35_method_26_code (3 : Nat) (Option.none : Option Jvm.ClassFile.FieldType)).before args0 about1 = true := code_word (m := ⟨9, 1⟩) (meth := k9m1) (c := k9c1) (by decide +kernel) rfl rfl rfl (by decide +kernel)
set_option maxRecDepth 65536 in
theorem w_c7 : (Jvm.Cond.code ({ cls := "java/lang/Number", name := "<init>", desc := "()V" } : Jvm.MethodName) jdk_18_method_1_code (1 : Nat) (Option.none : Option Jvm.ClassFile.FieldType)).before args0 about1 = true := code_word (m := ⟨5, 0⟩) (meth := k5m0) (c := k5c0) (by decide +kernel) rfl rfl rfl (by decide +kernel)
def codes1 : List Jvm.Cond := [Jvm.Cond.code x code maxLocals ret, Jvm.Cond.code ({ cls := "com/example/aliquot/aliquot/Task", name := "<init>", desc := "(JJJJ)V" } : Jvm.MethodName) prog_85_method_1_code (9 : Nat) (Option.none : Option Jvm.ClassFile.FieldType), Jvm.Cond.code ({ cls := "java/lang/Record", name := "<init>", desc := "()V" } : Jvm.MethodName) jdk_30_method_1_code (1 : Nat) (Option.none : Option Jvm.ClassFile.FieldType), Jvm.Cond.code ({ cls := "java/lang/Object", name := "<init>", desc := "()V" } : Jvm.MethodName) object_method_1_code (1 : Nat) (Option.none : Option Jvm.ClassFile.FieldType), Jvm.Cond.code ({ cls := "java/lang/Long", name := "valueOf", desc := "(J)Ljava/lang/Long;" } : Jvm.MethodName) jdk_35_method_24_code (3 : Nat) (Option.some (Jvm.ClassFile.FieldType.object "java/lang/Long")), Jvm.Cond.code ({ cls := "com/example/aliquot/aliquot/Task", name := "equals", desc := "(Ljava/lang/Object;)Z" } : Jvm.MethodName) prog_85_method_2_code (3 : Nat) (Option.some Jvm.ClassFile.FieldType.boolean), Jvm.Cond.code ({ cls := "java/lang/Long", name := "<init>", desc := "(J)V" } : Jvm.MethodName) jdk_35_method_26_code (3 : Nat) (Option.none : Option Jvm.ClassFile.FieldType), Jvm.Cond.code ({ cls := "java/lang/Number", name := "<init>", desc := "()V" } : Jvm.MethodName) jdk_18_method_1_code (1 : Nat) (Option.none : Option Jvm.ClassFile.FieldType)]
set_option maxRecDepth 65536 in
theorem codes_eq : words1.filter isCode = codes1 := rfl
theorem w_codes : ∀ c ∈ words1.filter isCode, c.before args0 about1 = true := by
  rw [codes_eq]
  intro c hc
  simp only [codes1, List.mem_cons, List.not_mem_nil, or_false] at hc
  rcases hc with rfl | rfl | rfl | rfl | rfl | rfl | rfl | rfl
  · exact w_c0
  · exact w_c1
  · exact w_c2
  · exact w_c3
  · exact w_c4
  · exact w_c5
  · exact w_c6
  · exact w_c7
set_option maxRecDepth 65536 in
theorem w_t1 : (words1.take 24).all (fun c => isCode c || c.before args0 about1) = true := by decide +kernel
set_option maxRecDepth 65536 in
theorem w_t2 : ((words1.drop 24).take 24).all (fun c => isCode c || c.before args0 about1) = true := by decide +kernel
set_option maxRecDepth 65536 in
theorem w_t3 : ((words1.drop 24).drop 24).all (fun c => isCode c || c.before args0 about1) = true := by decide +kernel
theorem w_tables : (allAtoms (Jvm.Cond.code x code maxLocals ret :: tables_1)).before args0 about1 = true := by
  rw [allAtoms_all]
  show words1.all (fun c => c.before args0 about1) = true
  refine all_split ?_ w_codes
  rw [← List.take_append_drop 24 words1, List.all_append, w_t1, ← List.take_append_drop 24 (words1.drop 24), List.all_append, w_t2, w_t3]
  rfl
set_option maxRecDepth 65536 in
theorem w_rest : rest_1_c.before args0 about1 = true := by decide +kernel
set_option maxRecDepth 65536 in
theorem w_case : (Jvm.Cond.and given_1 narrow_1).before args0 about1 = true := by decide +kernel
theorem w_applies : (headSpec (Jvm.Cond.code x code maxLocals ret :: tables_1) room_1).applies x e0.platform about1 = true :=
  (Spec.applies_iff w_frames).mpr ⟨w_running, w_runnable, w_alone, w_named, w_hears, w_ripe, w_room, w_tables⟩
theorem atStart : AtStart classFile x code maxLocals ret World_1 tables_1 room_1 Calls_1 rest_1 Pre_1 launch0 p0 e0 about1 theMethod args0 below0 :=
  ⟨lists_1, trivial, launch0.admits_env _ _ _, launch0.least_env, fairChoices_fair.cas, fairChoices_fair.clock, w_frames, w_args, w_heap, w_applies, trivial, w_rest, w_case⟩
end start1
theorem witness_1 : WitnessClaimed_1 := ⟨start1.p0, start1.e0, start1.about1, start1.theMethod, start1.args0, start1.below0, start1.atStart⟩
end Jvm.Pilot.@@N@@
