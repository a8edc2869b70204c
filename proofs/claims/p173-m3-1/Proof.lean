import JvmDerived
import JvmDerived.Pilot.@@N@@Statement
import JvmDerived.Pilot.@@N@@Code
set_option linter.unusedVariables false
set_option linter.unusedSimpArgs false
namespace Jvm.RoadKit
open Sem ClassFile Op Lib Jvm.Stand Jvm.Free Jvm.LawKit
section New
variable {p : Program} {l : Launch} {e : Env} {R : Room} {s : State} {m : MethodId} {args : Array Value} {below : List Frame} {meth : Method} {c : Code} {T : State} {locs : List Loc} {cells slots : Nat}
theorem retI (X : Stand p l e R s m args below meth c T locs cells slots) (hx : p.tables.exec = Jvm.exec) {pc : Nat} {Ls : Array Slot} {z : Int32} {rest : List Value} (hret : meth.sig.returnType = some .int) (hd : decode c.code pc = .ok (.ireturn, 1)) {fs : List Frame}
    (hl : ∀ (f : JFrame) (acts : List Action), f.method = m → f.locked = none → f.entered = [] → (doReturn e (T.setTop f) acts (some (.int z))).1 = T.setFrames fs) : Steps p.tables e below (T.setTop (mkF m pc Ls (.int z :: rest))) (T.setFrames fs) := by
  have hm' : T.vm.method? m = some meth := X.method'
  have hn : narrow .int (.int z) = .int z := rfl
  show Steps p.tables e below (T.setTop { method := m, pc := pc, locals := Ls, stack := _ :: rest, locked := none }) _
  jvm_step X.here [X.here.top, hx, hd, hm', hret, hn]
  first | (intro acts; rw [hl _ acts rfl rfl rfl]) | rw [hl _ _ rfl rfl rfl]
  exact Steps.refl _
end New
end Jvm.RoadKit
namespace Jvm.Pilot.@@N@@
open Jvm Jvm.ClassFile Sem Op Lib Jvm.Free Jvm.Stand Jvm.LawKit Jvm.RoadKit Bundle Jvm.Pilot.@@N@@.Jvm.D
section Own
variable {p : Program} {l : Launch} {e : Env} {R : Room} {s : State} {m : MethodId} {args : Array Value} {below : List Frame} {meth : Method} {c : Code} {T T' : State} {locs : List Loc} {cells slots cc nn : Nat} {f f' : JFrame} {Q : Option Value → Heap → List Loc → Prop} {Z : State} {h h' : Heap} {ws : List Addr}
/-- from this state the body comes to its end, and what it leaves is as Q says -/
def own_Ends (p : Program) (e : Env) (below : List Frame) (s : State) (Q : Option Value → Heap → List Loc → Prop) (cc nn : Nat) (T : State) (f : JFrame) : Prop :=
  ∃ s₂ o, Steps p.tables e below (T.setTop f) s₂ ∧ s₂.status = .running ∧ Ended s₂ below o ∧ ∃ v L, o = .returned v ∧ Q v s₂.heap L ∧ FrameEnd s o s₂ L cc nn
theorem own_go (k : ∀ t, Steps p.tables e below (T'.setTop f') t → Steps p.tables e below (T.setTop f) t) (h : own_Ends p e below s Q cc nn T' f') : own_Ends p e below s Q cc nn T f := by
  obtain ⟨s₂, o, h1, h2⟩ := h
  exact ⟨s₂, o, k _ h1, h2⟩
theorem own_ret (X : Stand p l e R s m args below meth c T locs cells slots) {v : Option Value} (hv : meth.sig.returnType = none → v = none) (hlk : meth.locks = false)
    (st : ∀ fs, (∀ (f : JFrame) (acts : List Action), f.method = m → f.locked = none → f.entered = [] → (doReturn e (T.setTop f) acts v).1 = T.setFrames fs) → Steps p.tables e below (T.setTop f) (T.setFrames fs)) (hQ : Q v T.heap locs) (h1 : cells ≤ cc) (h2 : slots ≤ nn) :
    own_Ends p e below s Q cc nn T f := by
  obtain ⟨fs, hr, hrun, hended, hW, hsame⟩ := X.leave (v := v) hv hlk
  exact ⟨_, _, st fs hr, hrun, hended, _, _, rfl, hQ, ⟨_, rfl⟩, hW, hsame.mono h1 h2⟩
theorem own_retL (X : Stand p l e R s m args below meth c T locs cells slots) (hx : p.tables.exec = Jvm.exec) {pc : Nat} {Ls : Array Slot} {z : Int64} {rest : List Value} (hret : meth.sig.returnType = some .long) (hd : decode c.code pc = .ok (.lreturn, 1)) {fs : List Frame}
    (hl : ∀ (f : JFrame) (acts : List Action), f.method = m → f.locked = none → f.entered = [] → (doReturn e (T.setTop f) acts (some (.long z))).1 = T.setFrames fs) : Steps p.tables e below (T.setTop (mkF m pc Ls (.long z :: rest))) (T.setFrames fs) :=
  retOut X hx hret rfl (Or.inr (Or.inl ⟨rfl, rfl, _, rfl⟩)) hd hl
theorem own_retD (X : Stand p l e R s m args below meth c T locs cells slots) (hx : p.tables.exec = Jvm.exec) {pc : Nat} {Ls : Array Slot} {z : UInt64} {rest : List Value} (hret : meth.sig.returnType = some .double) (hd : decode c.code pc = .ok (.dreturn, 1)) {fs : List Frame}
    (hl : ∀ (f : JFrame) (acts : List Action), f.method = m → f.locked = none → f.entered = [] → (doReturn e (T.setTop f) acts (some (.double z))).1 = T.setFrames fs) : Steps p.tables e below (T.setTop (mkF m pc Ls (.double z :: rest))) (T.setFrames fs) :=
  retOut X hx hret rfl (Or.inr (Or.inr (Or.inl ⟨rfl, rfl, _, rfl⟩))) hd hl
theorem own_retA (X : Stand p l e R s m args below meth c T locs cells slots) (hx : p.tables.exec = Jvm.exec) {pc : Nat} {Ls : Array Slot} {w : Value} {t : FieldType} {rest : List Value} (hret : meth.sig.returnType = some t) (ht : t.isReference = true) (hw : w.isRef = true) (hd : decode c.code pc = .ok (.areturn, 1)) {fs : List Frame}
    (hl : ∀ (f : JFrame) (acts : List Action), f.method = m → f.locked = none → f.entered = [] → (doReturn e (T.setTop f) acts (some w)).1 = T.setFrames fs) : Steps p.tables e below (T.setTop (mkF m pc Ls (w :: rest))) (T.setFrames fs) :=
  retOut X hx hret (by cases t <;> first | rfl | (cases ht; done)) (Or.inr (Or.inr (Or.inr (Or.inr ⟨rfl, ht, hw⟩)))) hd hl
theorem own_lc_lt {a b : Int64} : lcmpW a b < 0 ↔ a < b := by
  simp only [lcmpW, gt_iff_lt]
  by_cases h1 : b < a
  · rw [if_pos h1]; exact ⟨fun q => absurd q (by decide), fun q => absurd q (by rw [Int64.lt_iff_toInt_lt] at *; omega)⟩
  · rw [if_neg h1]
    by_cases h2 : a = b
    · rw [if_pos h2]; exact ⟨fun q => absurd q (by decide), fun q => absurd q (by rw [h2, Int64.lt_iff_toInt_lt]; omega)⟩
    · rw [if_neg h2]; exact ⟨fun _ => by rw [Int64.lt_iff_toInt_lt] at *; rw [← Int64.toInt_inj] at h2; omega, fun _ => by decide⟩
theorem own_lc_eq {a b : Int64} : lcmpW a b = 0 ↔ a = b := by
  simp only [lcmpW, gt_iff_lt]
  by_cases h1 : b < a
  · rw [if_pos h1]; exact ⟨fun q => absurd q (by decide), fun q => absurd h1 (by rw [q, Int64.lt_iff_toInt_lt]; omega)⟩
  · rw [if_neg h1]
    by_cases h2 : a = b
    · rw [if_pos h2]; exact ⟨fun _ => h2, fun _ => rfl⟩
    · rw [if_neg h2]; exact ⟨fun q => absurd q (by decide), fun q => absurd q h2⟩
theorem own_lc_gt {a b : Int64} : 0 < lcmpW a b ↔ b < a := by
  simp only [lcmpW, gt_iff_lt]
  by_cases h1 : b < a
  · rw [if_pos h1]; exact ⟨fun _ => h1, fun _ => by decide⟩
  · rw [if_neg h1]
    by_cases h2 : a = b
    · rw [if_pos h2]; exact ⟨fun q => absurd q (by decide), fun q => absurd q h1⟩
    · rw [if_neg h2]; exact ⟨fun q => absurd q (by decide), fun q => absurd q h1⟩
section Arr
variable {target : State} {g : JFrame} {a : Addr} {kc : ClassId} {ty : FieldType} {z : Int32} {vs : List Value} {dv : Value}
theorem own_alen (X : Stand p l e R s m args below meth c T locs cells slots) (hx : p.tables.exec = Jvm.exec) (hZ : Z.Warmed39 s.vm) (eT : T.heap = h) (V : Arv Z h a kc ty z vs dv) (hg : g.method = m) {rest : List Value} (hs : g.stack = .ref a :: rest) (hd : decode c.code g.pc = .ok (.arraylength, 1))
    (hr : Steps p.tables e below (T.setTop { g with pc := g.pc + 1, stack := .int z :: rest }) target) : Steps p.tables e below (T.setTop g) target := by
  obtain ⟨cl, Ar, -, Sz, Ng, -, -⟩ := V
  exact X.arraylength hx (by rw [eT]; exact Ar.1) (State.isArrayOf_alike hZ.alike Ar.2.1) hg hs hd _ (by rw [len_of Sz Ng]; exact hr)
theorem own_ldI (X : Stand p l e R s m args below meth c T locs cells slots) (hx : p.tables.exec = Jvm.exec) (hZ : Z.Warmed39 s.vm) (eT : T.heap = h) (V : Arv Z h a kc .int z vs dv) {j : Int32} {x : Int32} (hin : ¬ j < 0 ∧ j < z) (hv : vs.getD j.toNatClampNeg dv = .int x) (hg : g.method = m) {rest : List Value} (hs : g.stack = .int j :: .ref a :: rest) (hd : decode c.code g.pc = .ok (.iaload, 1))
    (hr : Steps p.tables e below (T.setTop { g with pc := g.pc + 1, stack := .int x :: rest }) target) : Steps p.tables e below (T.setTop g) target := by
  obtain ⟨cl, Ar, -, Sz, Ng, Hs, Ft⟩ := V
  have hq := inb_of (j := j) Sz hin
  exact X.iaload hx (j := j) (v := .int x) (by rw [eT]; exact Ar.1) (State.isArrayOf_alike hZ.alike Ar.2.1) Ar.2.2 hq (Hs.at hq hv) hg hs hd _ hr
theorem own_ldB (X : Stand p l e R s m args below meth c T locs cells slots) (hx : p.tables.exec = Jvm.exec) (hZ : Z.Warmed39 s.vm) (eT : T.heap = h) (V : Arv Z h a kc .byte z vs dv) {j : Int32} {x : Int32} (hin : ¬ j < 0 ∧ j < z) (hv : vs.getD j.toNatClampNeg dv = .int x) (hg : g.method = m) {rest : List Value} (hs : g.stack = .int j :: .ref a :: rest) (hd : decode c.code g.pc = .ok (.baload, 1))
    (hr : Steps p.tables e below (T.setTop { g with pc := g.pc + 1, stack := .int x :: rest }) target) : Steps p.tables e below (T.setTop g) target := by
  obtain ⟨cl, Ar, -, Sz, Ng, Hs, Ft⟩ := V
  have hq := inb_of (j := j) Sz hin
  exact X.baloadBytes hx (j := j) (v := .int x) (by rw [eT]; exact Ar.1) (State.isArrayOf_alike hZ.alike Ar.2.1) Ar.2.2 hq (Hs.at hq hv) hg hs hd _ hr
theorem own_ldC (X : Stand p l e R s m args below meth c T locs cells slots) (hx : p.tables.exec = Jvm.exec) (hZ : Z.Warmed39 s.vm) (eT : T.heap = h) (V : Arv Z h a kc .char z vs dv) {j : Int32} {x : Int32} (hin : ¬ j < 0 ∧ j < z) (hv : vs.getD j.toNatClampNeg dv = .int x) (hg : g.method = m) {rest : List Value} (hs : g.stack = .int j :: .ref a :: rest) (hd : decode c.code g.pc = .ok (.caload, 1))
    (hr : Steps p.tables e below (T.setTop { g with pc := g.pc + 1, stack := .int x :: rest }) target) : Steps p.tables e below (T.setTop g) target := by
  obtain ⟨cl, Ar, -, Sz, Ng, Hs, Ft⟩ := V
  have hq := inb_of (j := j) Sz hin
  exact X.caload hx (j := j) (v := .int x) (by rw [eT]; exact Ar.1) (State.isArrayOf_alike hZ.alike Ar.2.1) Ar.2.2 hq (Hs.at hq hv) hg hs hd _ hr
theorem own_ldJ (X : Stand p l e R s m args below meth c T locs cells slots) (hx : p.tables.exec = Jvm.exec) (hZ : Z.Warmed39 s.vm) (eT : T.heap = h) (V : Arv Z h a kc .long z vs dv) {j : Int32} {x : Int64} (hin : ¬ j < 0 ∧ j < z) (hv : vs.getD j.toNatClampNeg dv = .long x) (hg : g.method = m) {rest : List Value} (hs : g.stack = .int j :: .ref a :: rest) (hd : decode c.code g.pc = .ok (.laload, 1))
    (hr : Steps p.tables e below (T.setTop { g with pc := g.pc + 1, stack := .long x :: rest }) target) : Steps p.tables e below (T.setTop g) target := by
  obtain ⟨cl, Ar, -, Sz, Ng, Hs, Ft⟩ := V
  have hq := inb_of (j := j) Sz hin
  exact X.laload hx (j := j) (v := .long x) (by rw [eT]; exact Ar.1) (State.isArrayOf_alike hZ.alike Ar.2.1) Ar.2.2 hq (Hs.at hq hv) hg hs hd _ hr
theorem own_ldR (X : Stand p l e R s m args below meth c T locs cells slots) (hx : p.tables.exec = Jvm.exec) (hZ : Z.Warmed39 s.vm) (eT : T.heap = h) (V : Arv Z h a kc ty z vs dv) {j : Int32} {x : Value} (hin : ¬ j < 0 ∧ j < z) (hv : vs.getD j.toNatClampNeg dv = x) (hty : ty.isReference = true) (hg : g.method = m) {rest : List Value} (hs : g.stack = .int j :: .ref a :: rest) (hd : decode c.code g.pc = .ok (.aaload, 1))
    (hr : Steps p.tables e below (T.setTop { g with pc := g.pc + 1, stack := x :: rest }) target) : Steps p.tables e below (T.setTop g) target := by
  obtain ⟨cl, Ar, -, Sz, Ng, Hs, Ft⟩ := V
  have hq := inb_of (j := j) Sz hin
  exact X.aaload hx (j := j) (v := x) (by rw [eT]; exact Ar.1) (State.isArrayOf_alike hZ.alike Ar.2.1) hty Ar.2.2 hq (Hs.at hq hv) hg hs hd _ hr
theorem own_stI (X : Stand p l e R s m args below meth c T locs cells slots) (hx : p.tables.exec = Jvm.exec) (hZ : Z.Warmed39 s.vm) (eT : T.heap = h) (V : Arv Z h a kc .int z vs dv) {j : Int32} {x : Int32} (hin : ¬ j < 0 ∧ j < z) (i : Nat) (hj : j.toNatClampNeg = i) (hi : i < vs.length) (hg : g.method = m) {rest : List Value} (hs : g.stack = .int x :: .int j :: .ref a :: rest) (hd : decode c.code g.pc = .ok (.iastore, 1)) :
    ∃ T' h', Stand p l e R s m args below meth c T' (locs ++ [⟨a, j.toNatClampNeg⟩]) cells slots ∧ T'.heap = h' ∧ Wr h h' a j.toNatClampNeg (.int x) ∧ Arv Z h' a kc .int z (vs.set i (.int x)) dv ∧ ∀ target, Steps p.tables e below (T'.setTop { g with pc := g.pc + 1, stack := rest }) target → Steps p.tables e below (T.setTop g) target := by
  obtain ⟨cl, Ar, q, Sz, Ng, Hs, Ft⟩ := V
  obtain ⟨T', h', X', e', W', st⟩ := stI X hx hZ eT Ar (j := j) (inb_of Sz hin) hg hs hd
  exact ⟨T', h', X', e', W', Arv.set Ar q Sz Ng Hs Ft rfl W' i hj hi, st⟩
theorem own_stB (X : Stand p l e R s m args below meth c T locs cells slots) (hx : p.tables.exec = Jvm.exec) (hZ : Z.Warmed39 s.vm) (eT : T.heap = h) (V : Arv Z h a kc .byte z vs dv) {j : Int32} {x : Int32} (hin : ¬ j < 0 ∧ j < z) (i : Nat) (hj : j.toNatClampNeg = i) (hi : i < vs.length) (hg : g.method = m) {rest : List Value} (hs : g.stack = .int x :: .int j :: .ref a :: rest) (hd : decode c.code g.pc = .ok (.bastore, 1)) :
    ∃ T' h', Stand p l e R s m args below meth c T' (locs ++ [⟨a, j.toNatClampNeg⟩]) cells slots ∧ T'.heap = h' ∧ Wr h h' a j.toNatClampNeg (.int (nar .byte x)) ∧ Arv Z h' a kc .byte z (vs.set i (.int (nar .byte x))) dv ∧ ∀ target, Steps p.tables e below (T'.setTop { g with pc := g.pc + 1, stack := rest }) target → Steps p.tables e below (T.setTop g) target := by
  obtain ⟨cl, Ar, q, Sz, Ng, Hs, Ft⟩ := V
  obtain ⟨T', h', X', e', W', st⟩ := stB X hx hZ eT Ar (j := j) (inb_of Sz hin) hg hs hd
  exact ⟨T', h', X', e', W', Arv.set Ar q Sz Ng Hs Ft (fits_nar_byte _) W' i hj hi, st⟩
theorem own_stC (X : Stand p l e R s m args below meth c T locs cells slots) (hx : p.tables.exec = Jvm.exec) (hZ : Z.Warmed39 s.vm) (eT : T.heap = h) (V : Arv Z h a kc .char z vs dv) {j : Int32} {x : Int32} (hin : ¬ j < 0 ∧ j < z) (i : Nat) (hj : j.toNatClampNeg = i) (hi : i < vs.length) (hg : g.method = m) {rest : List Value} (hs : g.stack = .int x :: .int j :: .ref a :: rest) (hd : decode c.code g.pc = .ok (.castore, 1)) :
    ∃ T' h', Stand p l e R s m args below meth c T' (locs ++ [⟨a, j.toNatClampNeg⟩]) cells slots ∧ T'.heap = h' ∧ Wr h h' a j.toNatClampNeg (.int (nar .char x)) ∧ Arv Z h' a kc .char z (vs.set i (.int (nar .char x))) dv ∧ ∀ target, Steps p.tables e below (T'.setTop { g with pc := g.pc + 1, stack := rest }) target → Steps p.tables e below (T.setTop g) target := by
  obtain ⟨cl, Ar, q, Sz, Ng, Hs, Ft⟩ := V
  obtain ⟨T', h', X', e', W', st⟩ := stC X hx hZ eT Ar (j := j) (inb_of Sz hin) hg hs hd
  exact ⟨T', h', X', e', W', Arv.set Ar q Sz Ng Hs Ft (fits_nar_char _) W' i hj hi, st⟩
theorem own_stJ (X : Stand p l e R s m args below meth c T locs cells slots) (hx : p.tables.exec = Jvm.exec) (hZ : Z.Warmed39 s.vm) (eT : T.heap = h) (V : Arv Z h a kc .long z vs dv) {j : Int32} {x : Int64} (hin : ¬ j < 0 ∧ j < z) (i : Nat) (hj : j.toNatClampNeg = i) (hi : i < vs.length) (hg : g.method = m) {rest : List Value} (hs : g.stack = .long x :: .int j :: .ref a :: rest) (hd : decode c.code g.pc = .ok (.lastore, 1)) :
    ∃ T' h', Stand p l e R s m args below meth c T' (locs ++ [⟨a, j.toNatClampNeg⟩]) cells slots ∧ T'.heap = h' ∧ Wr h h' a j.toNatClampNeg (.long x) ∧ Arv Z h' a kc .long z (vs.set i (.long x)) dv ∧ ∀ target, Steps p.tables e below (T'.setTop { g with pc := g.pc + 1, stack := rest }) target → Steps p.tables e below (T.setTop g) target := by
  obtain ⟨cl, Ar, q, Sz, Ng, Hs, Ft⟩ := V
  obtain ⟨T', h', X', e', W', st⟩ := stJ X hx hZ eT Ar (j := j) (inb_of Sz hin) hg hs hd
  exact ⟨T', h', X', e', W', Arv.set Ar q Sz Ng Hs Ft rfl W' i hj hi, st⟩
theorem own_stZ (X : Stand p l e R s m args below meth c T locs cells slots) (hx : p.tables.exec = Jvm.exec) (hZ : Z.Warmed39 s.vm) (eT : T.heap = h) (V : Arv Z h a kc .boolean z vs dv) {j : Int32} {x : Int32} (hin : ¬ j < 0 ∧ j < z) (i : Nat) (hj : j.toNatClampNeg = i) (hi : i < vs.length) (hg : g.method = m) {rest : List Value} (hs : g.stack = .int x :: .int j :: .ref a :: rest) (hd : decode c.code g.pc = .ok (.bastore, 1)) :
    ∃ T' h', Stand p l e R s m args below meth c T' (locs ++ [⟨a, j.toNatClampNeg⟩]) cells slots ∧ T'.heap = h' ∧ Wr h h' a j.toNatClampNeg (.int (nar .boolean x)) ∧ Arv Z h' a kc .boolean z (vs.set i (.int (nar .boolean x))) dv ∧ ∀ target, Steps p.tables e below (T'.setTop { g with pc := g.pc + 1, stack := rest }) target → Steps p.tables e below (T.setTop g) target := by
  obtain ⟨cl, Ar, q, Sz, Ng, Hs, Ft⟩ := V
  obtain ⟨T', h', X', e', W', st⟩ := stZ X hx hZ eT Ar (j := j) (inb_of Sz hin) hg hs hd
  exact ⟨T', h', X', e', W', Arv.set Ar q Sz Ng Hs Ft (fits_nar_bool _) W' i hj hi, st⟩
theorem own_stR (X : Stand p l e R s m args below meth c T locs cells slots) (hx : p.tables.exec = Jvm.exec) (hZ : Z.Warmed39 s.vm) (eT : T.heap = h) (V : Arv Z h a kc ty z vs dv) {j : Int32} {x : Value} (hin : ¬ j < 0 ∧ j < z) (hty : ty.isReference = true) (hf : fits ty x = true) (F : ∀ cl, Arr Z h a cl ty → cl.cls = kc → Sto Z h a x) (i : Nat) (hj : j.toNatClampNeg = i) (hi : i < vs.length) (hg : g.method = m) {rest : List Value} (hs : g.stack = x :: .int j :: .ref a :: rest) (hd : decode c.code g.pc = .ok (.aastore, 1)) :
    ∃ T' h', Stand p l e R s m args below meth c T' (locs ++ [⟨a, j.toNatClampNeg⟩]) cells slots ∧ T'.heap = h' ∧ Wr h h' a j.toNatClampNeg x ∧ Arv Z h' a kc ty z (vs.set i x) dv ∧ ∀ target, Steps p.tables e below (T'.setTop { g with pc := g.pc + 1, stack := rest }) target → Steps p.tables e below (T.setTop g) target := by
  obtain ⟨cl, Ar, q, Sz, Ng, Hs, Ft⟩ := V
  obtain ⟨T', h', X', e', W', st⟩ := stR X hx hZ eT Ar (j := j) (inb_of Sz hin) hty (F cl Ar q) hg hs hd
  exact ⟨T', h', X', e', W', Arv.set Ar q Sz Ng Hs Ft hf W' i hj hi, st⟩
end Arr
section Dbl
open Jvm.Free.XS
variable {tb : Tables} [Ours tb] {target : State} {g : JFrame}
theorem own_dloadN (h : At T m c below) (hx : tb.exec = Jvm.exec) (hg : g.method = m) {k : Fin 4} {v : UInt64} (hd : decode c.code g.pc = .ok (.dload_n k, 1)) (hl : g.locals[k.val]? = some (.val (.double v))) (hr : Steps tb e below (T.setTop { g with pc := g.pc + 1, stack := .double v :: g.stack }) target) : Steps tb e below (T.setTop g) target := by
  subst hg
  jvm_step h [h.top, hx, hd, hl]
  exact hr
theorem own_dload (h : At T m c below) (hx : tb.exec = Jvm.exec) (hg : g.method = m) {k : Nat} {v : UInt64} (hd : decode c.code g.pc = .ok (.dload k, 2)) (hl : g.locals[k]? = some (.val (.double v))) (hr : Steps tb e below (T.setTop { g with pc := g.pc + 2, stack := .double v :: g.stack }) target) : Steps tb e below (T.setTop g) target := by
  subst hg
  jvm_step h [h.top, hx, hd, hl]
  exact hr
theorem own_i2d (h : At T m c below) (hx : tb.exec = Jvm.exec) (hg : g.method = m) {x : Int32} {rest : List Value} (hd : decode c.code g.pc = .ok (.i2d, 1)) (hs : g.stack = .int x :: rest) (hr : Steps tb e below (T.setTop { g with pc := g.pc + 1, stack := .double (FP.i2d x) :: rest }) target) : Steps tb e below (T.setTop g) target := by
  subst hg
  jvm_step h [h.top, hx, hd, hs]
  exact hr
theorem own_dconst0 (h : At T m c below) (hx : tb.exec = Jvm.exec) (hg : g.method = m) (hd : decode c.code g.pc = .ok (.dconst 0, 1)) (hr : Steps tb e below (T.setTop { g with pc := g.pc + 1, stack := .double FP.dconst0 :: g.stack }) target) : Steps tb e below (T.setTop g) target := by
  subst hg
  jvm_step h [h.top, hx, hd]
  exact hr
theorem own_dconst1 (h : At T m c below) (hx : tb.exec = Jvm.exec) (hg : g.method = m) (hd : decode c.code g.pc = .ok (.dconst 1, 1)) (hr : Steps tb e below (T.setTop { g with pc := g.pc + 1, stack := .double FP.dconst1 :: g.stack }) target) : Steps tb e below (T.setTop g) target := by
  subst hg
  jvm_step h [h.top, hx, hd]
  exact hr
theorem own_pop2D (h : At T m c below) (hx : tb.exec = Jvm.exec) (hg : g.method = m) {v : UInt64} {rest : List Value} (hd : decode c.code g.pc = .ok (.pop2, 1)) (hs : g.stack = .double v :: rest) (hr : Steps tb e below (T.setTop { g with pc := g.pc + 1, stack := rest }) target) : Steps tb e below (T.setTop g) target := by
  subst hg
  jvm_step h [h.top, hx, hd, hs, Value.category]
  exact hr
theorem own_lsw (h : At T m c below) (hx : tb.exec = Jvm.exec) (hg : g.method = m) {dflt : Int} {prs : Array (Int × Int)} {len : Nat} {o : Int} {pc0 pc' : Nat} (hpc : g.pc = pc0) (hd : decode c.code g.pc = .ok (.lookupswitch dflt prs, len)) {i : Int32} {rest : List Value} (hs : g.stack = .int i :: rest) (ho : lookupswitch.offset prs.toList dflt i.toInt = o) (h0 : 0 ≤ (pc0 : Int) + o) (hp : ((pc0 : Int) + o).toNat = pc') (hk : (prs.toList.zip prs.toList.tail).all (fun q => decide (q.1.1 < q.2.1)) = true)
    (hr : Steps tb e below (T.setTop { g with pc := pc', stack := rest }) target) : Steps tb e below (T.setTop g) target := by
  subst hg hpc hp
  jvm_step h [h.top, hx, hd, hs, ho, h0, lookupswitch.wp_chain]
  exact ⟨fun a b a' b' hm => by simpa using List.all_eq_true.mp hk _ hm, hr⟩
theorem own_dcmp (h : At T m c below) (hx : tb.exec = Jvm.exec) (hg : g.method = m) {x y : UInt64} {rest : List Value} {op : CmpOp} {o : Ordering} (hd : decode c.code g.pc = .ok (.dcmp op, 1)) (hs : g.stack = .double y :: .double x :: rest) (hc : FP.dcmp x y = some o) (hr : Steps tb e below (T.setTop { g with pc := g.pc + 1, stack := .int (FP.cmpInt 0 (some o)) :: rest }) target) : Steps tb e below (T.setTop g) target := by
  subst hg
  cases o <;> (jvm_step h [h.top, hx, hd, hs, hc, cmpValue]; exact hr)
end Dbl
def own_sel {α : Type} (P : Prop) [Decidable P] (x y : α) : α := if P then x else y
def own_b2i (P : Prop) [Decidable P] : Int32 := if P then 1 else 0
theorem own_b2i_1 {P : Prop} [Decidable P] (h : P) : own_b2i P = 1 := by rw [own_b2i, if_pos h]
theorem own_b2i_congr {P R : Prop} [Decidable P] [Decidable R] (h : P ↔ R) : own_b2i P = own_b2i R := by
  by_cases q : P
  · rw [own_b2i_1 q, own_b2i_1 (h.mp q)]
  · rw [own_b2i, own_b2i, if_neg q, if_neg (fun r => q (h.mpr r))]
theorem own_b2i_t {P : Prop} [Decidable P] (h : P) : ¬ own_b2i P = 0 := by rw [own_b2i, if_pos h]; decide
theorem own_b2i_f {P : Prop} [Decidable P] (h : ¬ P) : own_b2i P = 0 := by rw [own_b2i, if_neg h]
theorem own_sta_keep {C n d : String} {v : Value} (F : Sta Z h C n d v) (K : Keep h h' ws) (q : ∀ st ∈ ws, ∀ c, h[st]? = some c → c.vm.isStatics = false) : Sta Z h' C n d v := by
  obtain ⟨cf, i, k, f, st, cell, h1, h2, h3, h4, h5, h6, h7⟩ := F
  exact ⟨cf, i, k, f, st, cell, h1, h2, h3, h4, K.2.1 st cell h5 (fun z => by rw [q st z cell h5] at h6; cases h6), h6, h7⟩
theorem own_ws0 : ∀ st ∈ ([] : List Addr), ∀ c, h[st]? = some c → c.vm.isStatics = false := fun _ q => nomatch q
theorem own_wsE {a : Addr} {C : String} (F : Exa Z h a C) (q : ∀ st ∈ ws, ∀ c, h[st]? = some c → c.vm.isStatics = false) : ∀ st ∈ a :: ws, ∀ c, h[st]? = some c → c.vm.isStatics = false := fun st hs c hc => by
  rcases List.mem_cons.mp hs with rfl | hs
  · obtain ⟨cell, k, h1, -, -, h4, -⟩ := F; cases h1.symm.trans hc; exact h4
  · exact q st hs c hc
theorem own_wsF {a : Addr} {C n d : String} {v : Value} (F : Fld Z h a C n d v) (q : ∀ st ∈ ws, ∀ c, h[st]? = some c → c.vm.isStatics = false) : ∀ st ∈ a :: ws, ∀ c, h[st]? = some c → c.vm.isStatics = false := fun st hs c hc => by
  rcases List.mem_cons.mp hs with rfl | hs
  · exact old_plain F c hc
  · exact q st hs c hc
theorem own_wsV {a : Addr} {k : ClassId} {ty : FieldType} {z : Int32} {vs : List Value} {dv : Value} (F : Arv Z h a k ty z vs dv) (q : ∀ st ∈ ws, ∀ c, h[st]? = some c → c.vm.isStatics = false) : ∀ st ∈ a :: ws, ∀ c, h[st]? = some c → c.vm.isStatics = false := fun st hs c hc => by
  rcases List.mem_cons.mp hs with rfl | hs
  · obtain ⟨cl, A, -⟩ := F; cases A.1.symm.trans hc; exact A.plain
  · exact q st hs c hc
theorem own_kx (K : Keep h h' []) : Ext h h' := ⟨K.1, fun a c q => K.2.1 a c q nin0⟩
theorem own_ins_keep {a : Addr} {C : String} {bo : Bool} (F : Ins Z h a C bo) (K : Keep h h' ws) : Ins Z h' a C bo := by
  obtain ⟨cell, cT, h1, h2, h3⟩ := F
  obtain ⟨c', q, r1, r2, r3⟩ := K.2.2 a cell h1
  exact ⟨c', cT, q, h2, by rw [r1, r2]; exact h3⟩
end Own
theorem ow13 {Z : State} {a0 : Array Value} (hw : ∀ d ∈ tables_1, d.before a0 Z = true) : (Jvm.Cond.methodLink "java/lang/Record" (1 : Nat) ({ cls := "java/lang/Object", name := "<init>", desc := "()V" } : Jvm.MethodName)).before a0 Z = true := hw _ (List.mem_of_getElem? (i := 13) rfl)
theorem ow15 {Z : State} {a0 : Array Value} (hw : ∀ d ∈ tables_1, d.before a0 Z = true) : (Jvm.Cond.code ({ cls := "java/lang/Object", name := "<init>", desc := "()V" } : Jvm.MethodName) object_method_1_code (1 : Nat) (Option.none : Option Jvm.ClassFile.FieldType)).before a0 Z = true := hw _ (List.mem_of_getElem? (i := 15) rfl)
theorem ow14 {Z : State} {a0 : Array Value} (hw : ∀ d ∈ tables_1, d.before a0 Z = true) : (Jvm.Cond.instanceMethod ({ cls := "java/lang/Object", name := "<init>", desc := "()V" } : Jvm.MethodName)).before a0 Z = true := hw _ (List.mem_of_getElem? (i := 14) rfl)
abbrev mn0 : MethodName := ⟨"java/lang/Record", "<init>", "()V"⟩
theorem ow8 {Z : State} {a0 : Array Value} (hw : ∀ d ∈ tables_1, d.before a0 Z = true) : (Jvm.Cond.methodLink "com/example/aliquot/aliquot/Task" (1 : Nat) ({ cls := "java/lang/Record", name := "<init>", desc := "()V" } : Jvm.MethodName)).before a0 Z = true := hw _ (List.mem_of_getElem? (i := 8) rfl)
theorem ow12 {Z : State} {a0 : Array Value} (hw : ∀ d ∈ tables_1, d.before a0 Z = true) : (Jvm.Cond.code ({ cls := "java/lang/Record", name := "<init>", desc := "()V" } : Jvm.MethodName) jdk_30_method_1_code (1 : Nat) (Option.none : Option Jvm.ClassFile.FieldType)).before a0 Z = true := hw _ (List.mem_of_getElem? (i := 12) rfl)
theorem ow11 {Z : State} {a0 : Array Value} (hw : ∀ d ∈ tables_1, d.before a0 Z = true) : (Jvm.Cond.initialized "java/lang/Record").before a0 Z = true := hw _ (List.mem_of_getElem? (i := 11) rfl)
theorem ow9 {Z : State} {a0 : Array Value} (hw : ∀ d ∈ tables_1, d.before a0 Z = true) : (Jvm.Cond.instanceMethod ({ cls := "java/lang/Record", name := "<init>", desc := "()V" } : Jvm.MethodName)).before a0 Z = true := hw _ (List.mem_of_getElem? (i := 9) rfl)
theorem ow16 {Z : State} {a0 : Array Value} (hw : ∀ d ∈ tables_1, d.before a0 Z = true) : (Jvm.Cond.fieldLink "com/example/aliquot/aliquot/Task" (7 : Nat) "com/example/aliquot/aliquot/Task" "number" "J").before a0 Z = true := hw _ (List.mem_of_getElem? (i := 16) rfl)
theorem ow17 {Z : State} {a0 : Array Value} (hw : ∀ d ∈ tables_1, d.before a0 Z = true) : (Jvm.Cond.laysFinal "com/example/aliquot/aliquot/Task" "com/example/aliquot/aliquot/Task" "number" "J").before a0 Z = true := hw _ (List.mem_of_getElem? (i := 17) rfl)
theorem ow3 {Z : State} {a0 : Array Value} (hw : ∀ d ∈ tables_1, d.before a0 Z = true) : (Jvm.Cond.instantiable "com/example/aliquot/aliquot/Task" (4 : Nat)).before a0 Z = true := hw _ (List.mem_of_getElem? (i := 3) rfl)
theorem ow18 {Z : State} {a0 : Array Value} (hw : ∀ d ∈ tables_1, d.before a0 Z = true) : (Jvm.Cond.fieldLink "com/example/aliquot/aliquot/Task" (13 : Nat) "com/example/aliquot/aliquot/Task" "firstRecord" "J").before a0 Z = true := hw _ (List.mem_of_getElem? (i := 18) rfl)
theorem ow19 {Z : State} {a0 : Array Value} (hw : ∀ d ∈ tables_1, d.before a0 Z = true) : (Jvm.Cond.laysFinal "com/example/aliquot/aliquot/Task" "com/example/aliquot/aliquot/Task" "firstRecord" "J").before a0 Z = true := hw _ (List.mem_of_getElem? (i := 19) rfl)
theorem ow20 {Z : State} {a0 : Array Value} (hw : ∀ d ∈ tables_1, d.before a0 Z = true) : (Jvm.Cond.fieldLink "com/example/aliquot/aliquot/Task" (16 : Nat) "com/example/aliquot/aliquot/Task" "lastRecord" "J").before a0 Z = true := hw _ (List.mem_of_getElem? (i := 20) rfl)
theorem ow21 {Z : State} {a0 : Array Value} (hw : ∀ d ∈ tables_1, d.before a0 Z = true) : (Jvm.Cond.laysFinal "com/example/aliquot/aliquot/Task" "com/example/aliquot/aliquot/Task" "lastRecord" "J").before a0 Z = true := hw _ (List.mem_of_getElem? (i := 21) rfl)
theorem ow22 {Z : State} {a0 : Array Value} (hw : ∀ d ∈ tables_1, d.before a0 Z = true) : (Jvm.Cond.fieldLink "com/example/aliquot/aliquot/Task" (19 : Nat) "com/example/aliquot/aliquot/Task" "firstWithoutIdentifier" "J").before a0 Z = true := hw _ (List.mem_of_getElem? (i := 22) rfl)
theorem ow23 {Z : State} {a0 : Array Value} (hw : ∀ d ∈ tables_1, d.before a0 Z = true) : (Jvm.Cond.laysFinal "com/example/aliquot/aliquot/Task" "com/example/aliquot/aliquot/Task" "firstWithoutIdentifier" "J").before a0 Z = true := hw _ (List.mem_of_getElem? (i := 23) rfl)
abbrev mn1 : MethodName := ⟨"com/example/aliquot/aliquot/Task", "<init>", "(JJJJ)V"⟩
abbrev mn2 : MethodName := ⟨"com/example/aliquot/aliquot/Task", "records", "()J"⟩
theorem ow0 {Z : State} {a0 : Array Value} (hw : ∀ d ∈ tables_1, d.before a0 Z = true) : (Jvm.Cond.constantLong "com/example/aliquot/aliquot/TaskRecordsPinLaw" (7 : Nat) (4611686018427387903 : Int64)).before a0 Z = true := hw _ (List.mem_of_getElem? (i := 0) rfl)
theorem ow1 {Z : State} {a0 : Array Value} (hw : ∀ d ∈ tables_1, d.before a0 Z = true) : (Jvm.Cond.constantLong "com/example/aliquot/aliquot/TaskRecordsPinLaw" (11 : Nat) (9223372036854775807 : Int64)).before a0 Z = true := hw _ (List.mem_of_getElem? (i := 1) rfl)
theorem ow2 {Z : State} {a0 : Array Value} (hw : ∀ d ∈ tables_1, d.before a0 Z = true) : (Jvm.Cond.classLink "com/example/aliquot/aliquot/TaskRecordsPinLaw" (13 : Nat) "com/example/aliquot/aliquot/Task").before a0 Z = true := hw _ (List.mem_of_getElem? (i := 2) rfl)
theorem ow4 {Z : State} {a0 : Array Value} (hw : ∀ d ∈ tables_1, d.before a0 Z = true) : (Jvm.Cond.initialized "com/example/aliquot/aliquot/Task").before a0 Z = true := hw _ (List.mem_of_getElem? (i := 4) rfl)
theorem ow5 {Z : State} {a0 : Array Value} (hw : ∀ d ∈ tables_1, d.before a0 Z = true) : (Jvm.Cond.methodLink "com/example/aliquot/aliquot/TaskRecordsPinLaw" (15 : Nat) ({ cls := "com/example/aliquot/aliquot/Task", name := "<init>", desc := "(JJJJ)V" } : Jvm.MethodName)).before a0 Z = true := hw _ (List.mem_of_getElem? (i := 5) rfl)
theorem ow7 {Z : State} {a0 : Array Value} (hw : ∀ d ∈ tables_1, d.before a0 Z = true) : (Jvm.Cond.code ({ cls := "com/example/aliquot/aliquot/Task", name := "<init>", desc := "(JJJJ)V" } : Jvm.MethodName) prog_85_method_1_code (9 : Nat) (Option.none : Option Jvm.ClassFile.FieldType)).before a0 Z = true := hw _ (List.mem_of_getElem? (i := 7) rfl)
theorem ow6 {Z : State} {a0 : Array Value} (hw : ∀ d ∈ tables_1, d.before a0 Z = true) : (Jvm.Cond.instanceMethod ({ cls := "com/example/aliquot/aliquot/Task", name := "<init>", desc := "(JJJJ)V" } : Jvm.MethodName)).before a0 Z = true := hw _ (List.mem_of_getElem? (i := 6) rfl)
theorem ow24 {Z : State} {a0 : Array Value} (hw : ∀ d ∈ tables_1, d.before a0 Z = true) : (Jvm.Cond.methodLink "com/example/aliquot/aliquot/TaskRecordsPinLaw" (18 : Nat) ({ cls := "com/example/aliquot/aliquot/Task", name := "records", desc := "()J" } : Jvm.MethodName)).before a0 Z = true := hw _ (List.mem_of_getElem? (i := 24) rfl)
theorem ow28 {Z : State} {a0 : Array Value} (hw : ∀ d ∈ tables_1, d.before a0 Z = true) : (Jvm.Cond.code ({ cls := "com/example/aliquot/aliquot/Task", name := "records", desc := "()J" } : Jvm.MethodName) prog_85_method_4_code (1 : Nat) (Option.some Jvm.ClassFile.FieldType.long)).before a0 Z = true := hw _ (List.mem_of_getElem? (i := 28) rfl)
theorem ow27 {Z : State} {a0 : Array Value} (hw : ∀ d ∈ tables_1, d.before a0 Z = true) : (Jvm.Cond.selects "com/example/aliquot/aliquot/Task" ({ cls := "com/example/aliquot/aliquot/Task", name := "records", desc := "()J" } : Jvm.MethodName) ({ cls := "com/example/aliquot/aliquot/Task", name := "records", desc := "()J" } : Jvm.MethodName)).before a0 Z = true := hw _ (List.mem_of_getElem? (i := 27) rfl)
theorem ow25 {Z : State} {a0 : Array Value} (hw : ∀ d ∈ tables_1, d.before a0 Z = true) : (Jvm.Cond.declares ({ cls := "com/example/aliquot/aliquot/Task", name := "records", desc := "()J" } : Jvm.MethodName)).before a0 Z = true := hw _ (List.mem_of_getElem? (i := 25) rfl)
theorem ow26 {Z : State} {a0 : Array Value} (hw : ∀ d ∈ tables_1, d.before a0 Z = true) : (Jvm.Cond.instanceMethod ({ cls := "com/example/aliquot/aliquot/Task", name := "records", desc := "()J" } : Jvm.MethodName)).before a0 Z = true := hw _ (List.mem_of_getElem? (i := 26) rfl)
theorem own_nz (b : Int64) : (b &&& (4611686018427387903 : Int64)) + (1 : Int64) ≠ 0 := by
  intro h
  have h1 := congrArg (fun z : Int64 => z.toBitVec.toNat) h
  have h2 : (b.toBitVec &&& 4611686018427387903#64).toNat ≤ 4611686018427387903 := by rw [BitVec.toNat_and]; exact Nat.and_le_right
  have h3 : ((b &&& (4611686018427387903 : Int64)) + (1 : Int64)).toBitVec.toNat = ((b.toBitVec &&& 4611686018427387903#64).toNat + 1) % 2 ^ 64 := by
    rw [Int64.toBitVec_add, BitVec.toNat_add]; rfl
  simp only [h3] at h1
  have h4 : (0 : Int64).toBitVec.toNat = 0 := rfl
  omega
theorem own_r1 (f n : Int64) : (((f + n) - 1) - f) + 1 = n := by grind
theorem own_r2 (f n m : Int64) : (((f + n) - 1) - (f + m)) + 1 = n - m := by grind
theorem own_r3 (f n m : Int64) : ((((f + m) - 1) - f) + 1) + ((((f + n) - 1) - (f + m)) + 1) = (((f + n) - 1) - f) + 1 := by grind

theorem d2_0 : decode jdk_30_method_1_code 0 = .ok (.aload_n 0, 1) := by decide +kernel
theorem d2_1 : decode jdk_30_method_1_code 1 = .ok (.invokespecial 1, 3) := by decide +kernel
theorem d2_4 : decode jdk_30_method_1_code 4 = .ok (.return_, 1) := by decide +kernel
theorem pn_3 : plainName "java/lang/Record" = true := by first | (simp [plainName, overriddenIn]; done) | decide +kernel
theorem ef_rm2 (m : MethodId) (y0 : Addr) : entryFrame m #[(.ref y0)] 1 = mkF m 0 #[.val (.ref y0)] [] := by first | (simp [entryFrame, mkF, argsToLocals, Value.category]; done) | rfl
def Q2 (Z : State) (y0 : Addr) (h0 : Heap) (n0 : Nat) (v : Option Value) (h : Heap) (L : List Loc) : Prop := v = none ∧ Fr n0 L ∧ h = h0
set_option maxRecDepth 65536 in
set_option maxHeartbeats 40000000 in
theorem rm2 (l : Launch) (Z : State) (a0 : Array Value) (hw : ∀ d ∈ tables_1, d.before a0 Z = true) (ws : List Jvm.Cond) (y0 : Addr) (h0 : Heap) (n0 : Nat) (Z0 : n0 ≤ h0.size) :
    MetFree l mn0 (head1 (Jvm.Cond.code mn0 jdk_30_method_1_code 1 none :: ws) ({ frames := 1, cells := 0, slots := 0, locals := 12 } : Room)) (fun a U => a = #[(.ref y0)] ∧ Z.Warmed39 U.vm ∧ U.heap = h0) (fun _ _ _ _ _ => True) (fun _ U o U' => ∃ v L, o = .returned v ∧ Q2 Z y0 h0 n0 v U'.heap L ∧ FrameEnd U o U' L ({ frames := 1, cells := 0, slots := 0, locals := 12 } : Room).cells ({ frames := 1, cells := 0, slots := 0, locals := 12 } : Room).slots) := by
  refine MetFree.of_bodySF (plainFor_of_name pn_3) hisR ?_
  intro p e s m args below meth c s₁ Bd hml0 hP hK
  obtain ⟨rfl, hZ, hh⟩ := hP
  have hx := Bd.exec
  have hby := Bd.bytes
  have hml : c.maxLocals = 1 := hml0
  have hown : s.vm.findClass "java/lang/Record" = some m.cls := findClass_of_methodNamed Bd.named
  have hnm := (name_of_methodNamed Bd.named Bd.method).1
  have X0 : Stand p l e ({ frames := 1, cells := 0, slots := 0, locals := 12 } : Room) s m #[(.ref y0)] below meth c s₁ [] 0 0 := Stand.of_body Bd
  have e0 : s₁.heap = h0 := by rw [← hh, Bd.state]; rfl
  have N0 := Fr.nil n0
  show own_Ends p e below s (Q2 Z y0 h0 n0) _ _ s₁ _
  rw [ef_rm2 m y0]
  refine own_go (T' := s₁) (f' := (mkF m 1 #[.val (.ref y0)] [(.ref y0)])) (fun _ k => XS.aloadN X0.here hx rfl (hb hby d2_0) rfl rfl k) ?_
  obtain ⟨T1, X1, e1, st1⟩ := initO X0 hx hZ hown (ow13 hw) (ow14 hw) (ow15 hw) e0 (g := (mkF m 1 #[.val (.ref y0)] [(.ref y0)])) rfl (by rw [hml]; rfl) rfl (hb hby d2_1) (by decide) (W := 0) (by show 2 * 0 + _ ≤ _; exact Nat.le_of_eq rfl) (by decide)
  refine own_go (T' := T1) (f' := (mkF m 4 #[.val (.ref y0)] [])) (fun _ k => st1 _ k) ?_
  refine own_ret X1 (v := none) (fun _ => rfl) Bd.notSynchronized (fun fs hr => X1.returnOut hx Bd.returns (hb hby d2_4) hr) ?_ (by decide) (by decide)
  show Q2 Z y0 h0 n0 _ T1.heap _
  exact ⟨rfl, N0, e1⟩
theorem pd1 : parseMethodDescriptor "()V" = some ⟨[], none⟩ := by decide +kernel
theorem d1_0 : decode prog_85_method_1_code 0 = .ok (.aload_n 0, 1) := by decide +kernel
theorem d1_1 : decode prog_85_method_1_code 1 = .ok (.invokespecial 1, 3) := by decide +kernel
theorem d1_4 : decode prog_85_method_1_code 4 = .ok (.aload_n 0, 1) := by decide +kernel
theorem d1_5 : decode prog_85_method_1_code 5 = .ok (.lload_n 1, 1) := by decide +kernel
theorem d1_6 : decode prog_85_method_1_code 6 = .ok (.putfield 7, 3) := by decide +kernel
theorem d1_9 : decode prog_85_method_1_code 9 = .ok (.aload_n 0, 1) := by decide +kernel
theorem d1_10 : decode prog_85_method_1_code 10 = .ok (.lload_n 3, 1) := by decide +kernel
theorem d1_11 : decode prog_85_method_1_code 11 = .ok (.putfield 13, 3) := by decide +kernel
theorem d1_14 : decode prog_85_method_1_code 14 = .ok (.aload_n 0, 1) := by decide +kernel
theorem d1_15 : decode prog_85_method_1_code 15 = .ok (.lload 5, 2) := by decide +kernel
theorem d1_17 : decode prog_85_method_1_code 17 = .ok (.putfield 16, 3) := by decide +kernel
theorem d1_20 : decode prog_85_method_1_code 20 = .ok (.aload_n 0, 1) := by decide +kernel
theorem d1_21 : decode prog_85_method_1_code 21 = .ok (.lload 7, 2) := by decide +kernel
theorem d1_23 : decode prog_85_method_1_code 23 = .ok (.putfield 19, 3) := by decide +kernel
theorem d1_26 : decode prog_85_method_1_code 26 = .ok (.return_, 1) := by decide +kernel
theorem pn_0 : plainName "com/example/aliquot/aliquot/Task" = true := by first | (simp [plainName, overriddenIn]; done) | decide +kernel
theorem ef_rm1 (m : MethodId) (y0 : Addr) (y1 : Int64) (y2 : Int64) (y3 : Int64) (y4 : Int64) : entryFrame m #[(.ref y0), (.long y1), (.long y2), (.long y3), (.long y4)] 9 = mkF m 0 #[.val (.ref y0), .val (.long y1), .second, .val (.long y2), .second, .val (.long y3), .second, .val (.long y4), .second] [] := by first | (simp [entryFrame, mkF, argsToLocals, Value.category]; done) | rfl
def Q1 (Z : State) (y0 : Addr) (y1 : Int64) (y2 : Int64) (y3 : Int64) (y4 : Int64) (u0 : Value) (u1 : Value) (u2 : Value) (u3 : Value) (h0 : Heap) (n0 : Nat) (v : Option Value) (h : Heap) (L : List Loc) : Prop := v = none ∧ Fr n0 L ∧ Keep h0 h [y0] ∧ Exa Z h y0 "com/example/aliquot/aliquot/Task" ∧ Fld Z h y0 "com/example/aliquot/aliquot/Task" "number" "J" (.long y1) ∧ Fld Z h y0 "com/example/aliquot/aliquot/Task" "firstRecord" "J" (.long y2) ∧ Fld Z h y0 "com/example/aliquot/aliquot/Task" "lastRecord" "J" (.long y3) ∧ Fld Z h y0 "com/example/aliquot/aliquot/Task" "firstWithoutIdentifier" "J" (.long y4)
set_option maxRecDepth 65536 in
set_option maxHeartbeats 40000000 in
theorem rm1 (l : Launch) (Z : State) (a0 : Array Value) (hw : ∀ d ∈ tables_1, d.before a0 Z = true) (ws : List Jvm.Cond) (y0 : Addr) (y1 : Int64) (y2 : Int64) (y3 : Int64) (y4 : Int64) (u0 : Value) (u1 : Value) (u2 : Value) (u3 : Value) (h0 : Heap) (n0 : Nat) (Z0 : n0 ≤ h0.size) (E_y0 : Exa Z h0 y0 "com/example/aliquot/aliquot/Task") (n_y0 : n0 ≤ y0) (F_0 : Fld Z h0 y0 "com/example/aliquot/aliquot/Task" "number" "J" u0) (F_1 : Fld Z h0 y0 "com/example/aliquot/aliquot/Task" "firstRecord" "J" u1) (F_2 : Fld Z h0 y0 "com/example/aliquot/aliquot/Task" "lastRecord" "J" u2) (F_3 : Fld Z h0 y0 "com/example/aliquot/aliquot/Task" "firstWithoutIdentifier" "J" u3) :
    MetFree l mn1 (head1 (Jvm.Cond.code mn1 prog_85_method_1_code 9 none :: ws) ({ frames := 2, cells := 0, slots := 0, locals := 24 } : Room)) (fun a U => a = #[(.ref y0), (.long y1), (.long y2), (.long y3), (.long y4)] ∧ Z.Warmed39 U.vm ∧ U.heap = h0) (fun _ _ _ _ _ => True) (fun _ U o U' => ∃ v L, o = .returned v ∧ Q1 Z y0 y1 y2 y3 y4 u0 u1 u2 u3 h0 n0 v U'.heap L ∧ FrameEnd U o U' L ({ frames := 2, cells := 0, slots := 0, locals := 24 } : Room).cells ({ frames := 2, cells := 0, slots := 0, locals := 24 } : Room).slots) := by
  refine MetFree.of_bodySF (plainFor_of_name pn_0) hisR ?_
  intro p e s m args below meth c s₁ Bd hml0 hP hK
  obtain ⟨rfl, hZ, hh⟩ := hP
  have hx := Bd.exec
  have hby := Bd.bytes
  have hml : c.maxLocals = 9 := hml0
  have hown : s.vm.findClass "com/example/aliquot/aliquot/Task" = some m.cls := findClass_of_methodNamed Bd.named
  have hnm := (name_of_methodNamed Bd.named Bd.method).1
  have X0 : Stand p l e ({ frames := 2, cells := 0, slots := 0, locals := 24 } : Room) s m #[(.ref y0), (.long y1), (.long y2), (.long y3), (.long y4)] below meth c s₁ [] 0 0 := Stand.of_body Bd
  have e0 : s₁.heap = h0 := by rw [← hh, Bd.state]; rfl
  have N0 := Fr.nil n0
  show own_Ends p e below s (Q1 Z y0 y1 y2 y3 y4 u0 u1 u2 u3 h0 n0) _ _ s₁ _
  rw [ef_rm1 m y0 y1 y2 y3 y4]
  refine own_go (T' := s₁) (f' := (mkF m 1 #[.val (.ref y0), .val (.long y1), .second, .val (.long y2), .second, .val (.long y3), .second, .val (.long y4), .second] [(.ref y0)])) (fun _ k => XS.aloadN X0.here hx rfl (hb hby d1_0) rfl rfl k) ?_
  obtain ⟨_, _, ⟨T1, L1, k1, n1⟩, -, X1, ⟨Lc1, hQ1, l1, y1, z1⟩, st1⟩ := X0.specialBack hx (y := mn0) rfl hown (mvT hZ (ow8 hw)) (mvT hZ (ow9 hw)) (mvT hZ (ow12 hw)) (by decide) (backOf (W := 0) (rm2 l Z a0 hw [] y0 h0 n0 Z0) hZ (ow12 hw) (ow11 hw) (by decide) (by decide)) (g := (mkF m 1 #[.val (.ref y0), .val (.long y1), .second, .val (.long y2), .second, .val (.long y3), .second, .val (.long y4), .second] [(.ref y0)])) rfl (by rw [hml]; rfl) (Steps.refl _) (a := y0) (argsL := []) (rest := []) (lenOf pd1 rfl) rfl (by show 2 * 0 + _ ≤ _; exact Nat.le_of_eq rfl) (hb hby d1_1) (fun _ _ => ⟨rfl, e0, (by decide : 0 + 0 ≤ _), (by decide : 0 + 0 ≤ _)⟩)
  dsimp only [Pt.U, Pt.locs, Pt.cells, Pt.slots] at X1 l1 y1 z1 st1 hQ1
  subst l1 y1 z1
  obtain ⟨rfl, N1q, hh1⟩ := hQ1
  have N1 := Fr.app N0 N1q
  refine own_go (T' := T1) (f' := (mkF m 6 #[.val (.ref y0), .val (.long y1), .second, .val (.long y2), .second, .val (.long y3), .second, .val (.long y4), .second] [(.long y1), (.ref y0)])) (fun _ k => st1.trans (XS.aloadN X1.here hx rfl (hb hby d1_4) rfl rfl (XS.lloadN X1.here hx rfl (hb hby d1_5) rfl k))) ?_
  obtain ⟨T2, h2, X2, e2, W2, st2⟩ := putF X1 hx hZ hown (host := "") (Or.inl (ow16 hw)) Via.refl hh1 F_0 E_y0 (Or.inr ⟨(ow17 hw), rfl, hnm⟩) (ow3 hw) (ty := .long) (by decide) rfl rfl (g := (mkF m 6 #[.val (.ref y0), .val (.long y1), .second, .val (.long y2), .second, .val (.long y3), .second, .val (.long y4), .second] [(.long y1), (.ref y0)])) rfl rfl (hb hby d1_6)
  have Fw2 := Fld.same W2 F_0
  have K2 : Keep h0 h2 [y0] := (Keep.refl h0 [y0]).wr W2 (Or.inl (List.mem_of_getElem? (i := 0) rfl))
  have N2 := Fr.snoc X2 N1 n_y0
  refine own_go (T' := T2) (f' := (mkF m 11 #[.val (.ref y0), .val (.long y1), .second, .val (.long y2), .second, .val (.long y3), .second, .val (.long y4), .second] [(.long y2), (.ref y0)])) (fun _ k => st2 _ (XS.aloadN X2.here hx rfl (hb hby d1_9) rfl rfl (XS.lloadN X2.here hx rfl (hb hby d1_10) rfl k))) ?_
  obtain ⟨T3, h3, X3, e3, W3, st3⟩ := putF X2 hx hZ hown (host := "") (Or.inl (ow18 hw)) Via.refl e2 (F_1.other W2 (Or.inr (slot_ne (Or.inr (ow19 hw)) (Or.inr (ow17 hw)) (by decide) (t := .long) (t' := .long) (by decide) (by decide)))) (E_y0.wr W2) (Or.inr ⟨(ow19 hw), rfl, hnm⟩) (ow3 hw) (ty := .long) (by decide) rfl rfl (g := (mkF m 11 #[.val (.ref y0), .val (.long y1), .second, .val (.long y2), .second, .val (.long y3), .second, .val (.long y4), .second] [(.long y2), (.ref y0)])) rfl rfl (hb hby d1_11)
  have Fw3 := Fld.same W3 (F_1.other W2 (Or.inr (slot_ne (Or.inr (ow19 hw)) (Or.inr (ow17 hw)) (by decide) (t := .long) (t' := .long) (by decide) (by decide))))
  have K3 : Keep h0 h3 [y0] := K2.wr W3 (Or.inl (List.mem_of_getElem? (i := 0) rfl))
  have N3 := Fr.snoc X3 N2 n_y0
  refine own_go (T' := T3) (f' := (mkF m 17 #[.val (.ref y0), .val (.long y1), .second, .val (.long y2), .second, .val (.long y3), .second, .val (.long y4), .second] [(.long y3), (.ref y0)])) (fun _ k => st3 _ (XS.aloadN X3.here hx rfl (hb hby d1_14) rfl rfl (XS.lload X3.here hx rfl (hb hby d1_15) rfl k))) ?_
  obtain ⟨T4, h4, X4, e4, W4, st4⟩ := putF X3 hx hZ hown (host := "") (Or.inl (ow20 hw)) Via.refl e3 ((F_2.other W2 (Or.inr (slot_ne (Or.inr (ow21 hw)) (Or.inr (ow17 hw)) (by decide) (t := .long) (t' := .long) (by decide) (by decide)))).other W3 (Or.inr (slot_ne (Or.inr (ow21 hw)) (Or.inr (ow19 hw)) (by decide) (t := .long) (t' := .long) (by decide) (by decide)))) ((E_y0.wr W2).wr W3) (Or.inr ⟨(ow21 hw), rfl, hnm⟩) (ow3 hw) (ty := .long) (by decide) rfl rfl (g := (mkF m 17 #[.val (.ref y0), .val (.long y1), .second, .val (.long y2), .second, .val (.long y3), .second, .val (.long y4), .second] [(.long y3), (.ref y0)])) rfl rfl (hb hby d1_17)
  have Fw4 := Fld.same W4 ((F_2.other W2 (Or.inr (slot_ne (Or.inr (ow21 hw)) (Or.inr (ow17 hw)) (by decide) (t := .long) (t' := .long) (by decide) (by decide)))).other W3 (Or.inr (slot_ne (Or.inr (ow21 hw)) (Or.inr (ow19 hw)) (by decide) (t := .long) (t' := .long) (by decide) (by decide))))
  have K4 : Keep h0 h4 [y0] := K3.wr W4 (Or.inl (List.mem_of_getElem? (i := 0) rfl))
  have N4 := Fr.snoc X4 N3 n_y0
  refine own_go (T' := T4) (f' := (mkF m 23 #[.val (.ref y0), .val (.long y1), .second, .val (.long y2), .second, .val (.long y3), .second, .val (.long y4), .second] [(.long y4), (.ref y0)])) (fun _ k => st4 _ (XS.aloadN X4.here hx rfl (hb hby d1_20) rfl rfl (XS.lload X4.here hx rfl (hb hby d1_21) rfl k))) ?_
  obtain ⟨T5, h5, X5, e5, W5, st5⟩ := putF X4 hx hZ hown (host := "") (Or.inl (ow22 hw)) Via.refl e4 (((F_3.other W2 (Or.inr (slot_ne (Or.inr (ow23 hw)) (Or.inr (ow17 hw)) (by decide) (t := .long) (t' := .long) (by decide) (by decide)))).other W3 (Or.inr (slot_ne (Or.inr (ow23 hw)) (Or.inr (ow19 hw)) (by decide) (t := .long) (t' := .long) (by decide) (by decide)))).other W4 (Or.inr (slot_ne (Or.inr (ow23 hw)) (Or.inr (ow21 hw)) (by decide) (t := .long) (t' := .long) (by decide) (by decide)))) (((E_y0.wr W2).wr W3).wr W4) (Or.inr ⟨(ow23 hw), rfl, hnm⟩) (ow3 hw) (ty := .long) (by decide) rfl rfl (g := (mkF m 23 #[.val (.ref y0), .val (.long y1), .second, .val (.long y2), .second, .val (.long y3), .second, .val (.long y4), .second] [(.long y4), (.ref y0)])) rfl rfl (hb hby d1_23)
  have Fw5 := Fld.same W5 (((F_3.other W2 (Or.inr (slot_ne (Or.inr (ow23 hw)) (Or.inr (ow17 hw)) (by decide) (t := .long) (t' := .long) (by decide) (by decide)))).other W3 (Or.inr (slot_ne (Or.inr (ow23 hw)) (Or.inr (ow19 hw)) (by decide) (t := .long) (t' := .long) (by decide) (by decide)))).other W4 (Or.inr (slot_ne (Or.inr (ow23 hw)) (Or.inr (ow21 hw)) (by decide) (t := .long) (t' := .long) (by decide) (by decide))))
  have K5 : Keep h0 h5 [y0] := K4.wr W5 (Or.inl (List.mem_of_getElem? (i := 0) rfl))
  have N5 := Fr.snoc X5 N4 n_y0
  refine own_go (T' := T5) (f' := (mkF m 26 #[.val (.ref y0), .val (.long y1), .second, .val (.long y2), .second, .val (.long y3), .second, .val (.long y4), .second] [])) (fun _ k => st5 _ k) ?_
  refine own_ret X5 (v := none) (fun _ => rfl) Bd.notSynchronized (fun fs hr => X5.returnOut hx Bd.returns (hb hby d1_26) hr) ?_ (by decide) (by decide)
  show Q1 Z y0 y1 y2 y3 y4 u0 u1 u2 u3 h0 n0 _ T5.heap _
  rw [e5]
  exact ⟨rfl, N5, K5, ((((E_y0.wr W2).wr W3).wr W4).wr W5), (((Fw2.other W3 (Or.inr (slot_ne (Or.inr (ow17 hw)) (Or.inr (ow19 hw)) (by decide) (t := .long) (t' := .long) (by decide) (by decide)))).other W4 (Or.inr (slot_ne (Or.inr (ow17 hw)) (Or.inr (ow21 hw)) (by decide) (t := .long) (t' := .long) (by decide) (by decide)))).other W5 (Or.inr (slot_ne (Or.inr (ow17 hw)) (Or.inr (ow23 hw)) (by decide) (t := .long) (t' := .long) (by decide) (by decide)))), ((Fw3.other W4 (Or.inr (slot_ne (Or.inr (ow19 hw)) (Or.inr (ow21 hw)) (by decide) (t := .long) (t' := .long) (by decide) (by decide)))).other W5 (Or.inr (slot_ne (Or.inr (ow19 hw)) (Or.inr (ow23 hw)) (by decide) (t := .long) (t' := .long) (by decide) (by decide)))), (Fw4.other W5 (Or.inr (slot_ne (Or.inr (ow21 hw)) (Or.inr (ow23 hw)) (by decide) (t := .long) (t' := .long) (by decide) (by decide)))), Fw5⟩
theorem d4_0 : decode prog_85_method_4_code 0 = .ok (.aload_n 0, 1) := by decide +kernel
theorem d4_1 : decode prog_85_method_4_code 1 = .ok (.getfield 16, 3) := by decide +kernel
theorem d4_4 : decode prog_85_method_4_code 4 = .ok (.aload_n 0, 1) := by decide +kernel
theorem d4_5 : decode prog_85_method_4_code 5 = .ok (.getfield 13, 3) := by decide +kernel
theorem d4_8 : decode prog_85_method_4_code 8 = .ok (.lsub, 1) := by decide +kernel
theorem d4_9 : decode prog_85_method_4_code 9 = .ok (.lconst 1, 1) := by decide +kernel
theorem d4_10 : decode prog_85_method_4_code 10 = .ok (.ladd, 1) := by decide +kernel
theorem d4_11 : decode prog_85_method_4_code 11 = .ok (.lreturn, 1) := by decide +kernel
theorem ef_rm4 (m : MethodId) (y0 : Addr) : entryFrame m #[(.ref y0)] 1 = mkF m 0 #[.val (.ref y0)] [] := by first | (simp [entryFrame, mkF, argsToLocals, Value.category]; done) | rfl
def Q4 (Z : State) (y0 : Addr) (ufirstRecord : Int64) (ulastRecord : Int64) (h0 : Heap) (n0 : Nat) (v : Option Value) (h : Heap) (L : List Loc) : Prop := v = some (.long ((ulastRecord - ufirstRecord) + (1 : Int64))) ∧ Fr n0 L ∧ h = h0
set_option maxRecDepth 65536 in
set_option maxHeartbeats 40000000 in
theorem rm4 (l : Launch) (Z : State) (a0 : Array Value) (hw : ∀ d ∈ tables_1, d.before a0 Z = true) (ws : List Jvm.Cond) (y0 : Addr) (ufirstRecord : Int64) (ulastRecord : Int64) (h0 : Heap) (n0 : Nat) (Z0 : n0 ≤ h0.size) (F_firstRecord : Fld Z h0 y0 "com/example/aliquot/aliquot/Task" "firstRecord" "J" (.long ufirstRecord)) (F_lastRecord : Fld Z h0 y0 "com/example/aliquot/aliquot/Task" "lastRecord" "J" (.long ulastRecord)) :
    MetFree l mn2 (head1 (Jvm.Cond.code mn2 prog_85_method_4_code 1 (some .long) :: ws) ({ frames := 0, cells := 0, slots := 0, locals := 0 } : Room)) (fun a U => a = #[(.ref y0)] ∧ Z.Warmed39 U.vm ∧ U.heap = h0) (fun _ _ _ _ _ => True) (fun _ U o U' => ∃ v L, o = .returned v ∧ Q4 Z y0 ufirstRecord ulastRecord h0 n0 v U'.heap L ∧ FrameEnd U o U' L ({ frames := 0, cells := 0, slots := 0, locals := 0 } : Room).cells ({ frames := 0, cells := 0, slots := 0, locals := 0 } : Room).slots) := by
  refine MetFree.of_bodySF (plainFor_of_name pn_0) hisR ?_
  intro p e s m args below meth c s₁ Bd hml0 hP hK
  obtain ⟨rfl, hZ, hh⟩ := hP
  have hx := Bd.exec
  have hby := Bd.bytes
  have hml : c.maxLocals = 1 := hml0
  have hown : s.vm.findClass "com/example/aliquot/aliquot/Task" = some m.cls := findClass_of_methodNamed Bd.named
  have hnm := (name_of_methodNamed Bd.named Bd.method).1
  have X0 : Stand p l e ({ frames := 0, cells := 0, slots := 0, locals := 0 } : Room) s m #[(.ref y0)] below meth c s₁ [] 0 0 := Stand.of_body Bd
  have e0 : s₁.heap = h0 := by rw [← hh, Bd.state]; rfl
  have N0 := Fr.nil n0
  show own_Ends p e below s (Q4 Z y0 ufirstRecord ulastRecord h0 n0) _ _ s₁ _
  rw [ef_rm4 m y0]
  refine own_go (T' := s₁) (f' := (mkF m 1 #[.val (.ref y0)] [(.ref y0)])) (fun _ k => XS.aloadN X0.here hx rfl (hb hby d4_0) rfl rfl k) ?_
  obtain ⟨T1, X1, e1, st1⟩ := getF X0 hx hZ hown (host := "") (Or.inl (ow20 hw)) Via.refl e0 F_lastRecord (g := (mkF m 1 #[.val (.ref y0)] [(.ref y0)])) rfl rfl (hb hby d4_1)
  refine own_go (T' := T1) (f' := (mkF m 5 #[.val (.ref y0)] [(.ref y0), (.long ulastRecord)])) (fun _ k => st1 _ (XS.aloadN X1.here hx rfl (hb hby d4_4) rfl rfl k)) ?_
  obtain ⟨T2, X2, e2, st2⟩ := getF X1 hx hZ hown (host := "") (Or.inl (ow18 hw)) Via.refl e1 F_firstRecord (g := (mkF m 5 #[.val (.ref y0)] [(.ref y0), (.long ulastRecord)])) rfl rfl (hb hby d4_5)
  refine own_go (T' := T2) (f' := (mkF m 11 #[.val (.ref y0)] [(.long ((ulastRecord - ufirstRecord) + (1 : Int64)))])) (fun _ k => st2 _ (XS.lsub X2.here hx rfl (hb hby d4_8) rfl (XS.lconst X2.here hx rfl (hb hby d4_9) (XS.ladd X2.here hx rfl (hb hby d4_10) rfl k)))) ?_
  refine own_ret X2 (v := some (.long ((ulastRecord - ufirstRecord) + (1 : Int64)))) (fun h => by rw [Bd.returns] at h; cases h) Bd.notSynchronized (fun fs hr => own_retL X2 hx Bd.returns (hb hby d4_11) hr) ?_ (by decide) (by decide)
  show Q4 Z y0 ufirstRecord ulastRecord h0 n0 _ T2.heap _
  exact ⟨rfl, N0, e2⟩
theorem pd2 : parseMethodDescriptor "(JJJJ)V" = some ⟨[.long, .long, .long, .long], none⟩ := by decide +kernel
theorem pd0 : parseMethodDescriptor "()J" = some ⟨[], some .long⟩ := by decide +kernel
theorem pn_1 : plainName "com/example/aliquot/aliquot/TaskRecordsPinLaw" = true := by first | (simp [plainName, overriddenIn]; done) | decide +kernel
theorem ef_rm0 (m : MethodId) (q0 : Int64) (q1 : Int64) (q2 : Int64) (q3 : Int64) (q4 : Int64) : entryFrame m #[(.long q0), (.long q1), (.long q2), (.long q3), (.long q4)] maxLocals = mkF m 0 #[.val (.long q0), .second, .val (.long q1), .second, .val (.long q2), .second, .val (.long q3), .second, .val (.long q4), .second, .unset, .unset, .unset, .unset, .unset, .unset, .unset, .unset, .unset, .unset, .unset, .unset, .unset, .unset, .unset] [] := by first | (simp [entryFrame, mkF, argsToLocals, Value.category, maxLocals]; done) | rfl
def Q0 (Z : State) (q0 : Int64) (q1 : Int64) (q2 : Int64) (q3 : Int64) (q4 : Int64) (h0 : Heap) (n0 : Nat) (v : Option Value) (h : Heap) (L : List Loc) : Prop := v = some (.int (1 : Int32)) ∧ Fr n0 L
set_option maxRecDepth 65536 in
set_option maxHeartbeats 40000000 in
theorem rm0 (l : Launch) (Z : State) (a0 : Array Value) (hw : ∀ d ∈ tables_1, d.before a0 Z = true) (ws : List Jvm.Cond) (q0 : Int64) (q1 : Int64) (q2 : Int64) (q3 : Int64) (q4 : Int64) (h0 : Heap) (n0 : Nat) (Z0 : n0 ≤ h0.size) :
    MetFree l x (head1 (Jvm.Cond.code x code maxLocals ret :: ws) room_1) (fun a U => a = #[(.long q0), (.long q1), (.long q2), (.long q3), (.long q4)] ∧ Z.Warmed39 U.vm ∧ U.heap = h0) (fun _ _ _ _ _ => True) (fun _ U o U' => ∃ v L, o = .returned v ∧ Q0 Z q0 q1 q2 q3 q4 h0 n0 v U'.heap L ∧ FrameEnd U o U' L room_1.cells room_1.slots) := by
  refine MetFree.of_bodySF (plainFor_of_name pn_1) hisR ?_
  intro p e s m args below meth c s₁ Bd hml0 hP hK
  obtain ⟨rfl, hZ, hh⟩ := hP
  have hx := Bd.exec
  have hby := Bd.bytes
  have hml : c.maxLocals = 25 := hml0
  have hown : s.vm.findClass "com/example/aliquot/aliquot/TaskRecordsPinLaw" = some m.cls := findClass_of_methodNamed Bd.named
  have hnm := (name_of_methodNamed Bd.named Bd.method).1
  have X0 : Stand p l e room_1 s m #[(.long q0), (.long q1), (.long q2), (.long q3), (.long q4)] below meth c s₁ [] 0 0 := Stand.of_body Bd
  have e0 : s₁.heap = h0 := by rw [← hh, Bd.state]; rfl
  have N0 := Fr.nil n0
  show own_Ends p e below s (Q0 Z q0 q1 q2 q3 q4 h0 n0) _ _ s₁ _
  rw [ef_rm0 m q0 q1 q2 q3 q4]
  refine own_go (T' := s₁) (f' := (mkF m 9 #[.val (.long q0), .second, .val (.long q1), .second, .val (.long q2), .second, .val (.long q3), .second, .val (.long q4), .second, .val (.long ((1 : Int64) + (q1 &&& (4611686018427387903 : Int64)))), .second, .unset, .unset, .unset, .unset, .unset, .unset, .unset, .unset, .unset, .unset, .unset, .unset, .unset] [])) (fun _ k => XS.lconst X0.here hx rfl (hb hby at_0) (XS.lloadN X0.here hx rfl (hb hby at_1) rfl (X0.ldc2Long hx hown (mvT hZ (ow0 hw)) (g := (mkF m 2 #[.val (.long q0), .second, .val (.long q1), .second, .val (.long q2), .second, .val (.long q3), .second, .val (.long q4), .second, .unset, .unset, .unset, .unset, .unset, .unset, .unset, .unset, .unset, .unset, .unset, .unset, .unset, .unset, .unset] [(.long q1), (.long (1 : Int64))])) rfl (hb hby at_2) _ (XS.land X0.here hx rfl (hb hby at_5) rfl (XS.ladd X0.here hx rfl (hb hby at_6) rfl (XS.lstore X0.here hx rfl (hb hby at_7) rfl (l' := #[.val (.long q0), .second, .val (.long q1), .second, .val (.long q2), .second, .val (.long q3), .second, .val (.long q4), .second, .val (.long ((1 : Int64) + (q1 &&& (4611686018427387903 : Int64)))), .second, .unset, .unset, .unset, .unset, .unset, .unset, .unset, .unset, .unset, .unset, .unset, .unset, .unset]) rfl k)))))) ?_
  generalize hzf : ((1 : Int64) + (q1 &&& (4611686018427387903 : Int64))) = zf
  refine own_go (T' := s₁) (f' := (mkF m 17 #[.val (.long q0), .second, .val (.long q1), .second, .val (.long q2), .second, .val (.long q3), .second, .val (.long q4), .second, .val (.long zf), .second, .val (.long (q2 &&& (4611686018427387903 : Int64))), .second, .unset, .unset, .unset, .unset, .unset, .unset, .unset, .unset, .unset, .unset, .unset] [])) (fun _ k => XS.lload X0.here hx rfl (hb hby at_9) rfl (X0.ldc2Long hx hown (mvT hZ (ow0 hw)) (g := (mkF m 11 #[.val (.long q0), .second, .val (.long q1), .second, .val (.long q2), .second, .val (.long q3), .second, .val (.long q4), .second, .val (.long zf), .second, .unset, .unset, .unset, .unset, .unset, .unset, .unset, .unset, .unset, .unset, .unset, .unset, .unset] [(.long q2)])) rfl (hb hby at_11) _ (XS.land X0.here hx rfl (hb hby at_14) rfl (XS.lstore X0.here hx rfl (hb hby at_15) rfl (l' := #[.val (.long q0), .second, .val (.long q1), .second, .val (.long q2), .second, .val (.long q3), .second, .val (.long q4), .second, .val (.long zf), .second, .val (.long (q2 &&& (4611686018427387903 : Int64))), .second, .unset, .unset, .unset, .unset, .unset, .unset, .unset, .unset, .unset, .unset, .unset]) rfl k)))) ?_
  generalize hzn : (q2 &&& (4611686018427387903 : Int64)) = zn
  refine own_go (T' := s₁) (f' := (mkF m 27 #[.val (.long q0), .second, .val (.long q1), .second, .val (.long q2), .second, .val (.long q3), .second, .val (.long q4), .second, .val (.long zf), .second, .val (.long zn), .second, .unset, .unset, .unset, .unset, .unset, .unset, .unset, .unset, .unset, .unset, .unset] [(.long (zn + (1 : Int64))), (.long (q3 &&& (9223372036854775807 : Int64)))])) (fun _ k => XS.lload X0.here hx rfl (hb hby at_17) rfl (X0.ldc2Long hx hown (mvT hZ (ow1 hw)) (g := (mkF m 19 #[.val (.long q0), .second, .val (.long q1), .second, .val (.long q2), .second, .val (.long q3), .second, .val (.long q4), .second, .val (.long zf), .second, .val (.long zn), .second, .unset, .unset, .unset, .unset, .unset, .unset, .unset, .unset, .unset, .unset, .unset] [(.long q3)])) rfl (hb hby at_19) _ (XS.land X0.here hx rfl (hb hby at_22) rfl (XS.lload X0.here hx rfl (hb hby at_23) rfl (XS.lconst X0.here hx rfl (hb hby at_25) (XS.ladd X0.here hx rfl (hb hby at_26) rfl k)))))) ?_
  refine own_go (T' := s₁) (f' := (mkF m 30 #[.val (.long q0), .second, .val (.long q1), .second, .val (.long q2), .second, .val (.long q3), .second, .val (.long q4), .second, .val (.long zf), .second, .val (.long zn), .second, .val (.long ((q3 &&& (9223372036854775807 : Int64)) - ((q3 &&& (9223372036854775807 : Int64)) / (zn + (1 : Int64))) * (zn + (1 : Int64)))), .second, .unset, .unset, .unset, .unset, .unset, .unset, .unset, .unset, .unset] [])) (fun _ k => XS.lrem X0.here hx rfl (hb hby at_27) rfl (by rw [← hzn]; exact own_nz _) (XS.lstore X0.here hx rfl (hb hby at_28) rfl (l' := #[.val (.long q0), .second, .val (.long q1), .second, .val (.long q2), .second, .val (.long q3), .second, .val (.long q4), .second, .val (.long zf), .second, .val (.long zn), .second, .val (.long ((q3 &&& (9223372036854775807 : Int64)) - ((q3 &&& (9223372036854775807 : Int64)) / (zn + (1 : Int64))) * (zn + (1 : Int64)))), .second, .unset, .unset, .unset, .unset, .unset, .unset, .unset, .unset, .unset]) rfl k)) ?_
  generalize hzm : ((q3 &&& (9223372036854775807 : Int64)) - ((q3 &&& (9223372036854775807 : Int64)) / (zn + (1 : Int64))) * (zn + (1 : Int64))) = zm
  obtain ⟨T1, h1, X1, e1, E1, A1, D1, -, st1⟩ := newO X0 hx hZ hown (ow2 hw) (ow3 hw) (ow4 hw) e0 (g := (mkF m 30 #[.val (.long q0), .second, .val (.long q1), .second, .val (.long q2), .second, .val (.long q3), .second, .val (.long q4), .second, .val (.long zf), .second, .val (.long zn), .second, .val (.long zm), .second, .unset, .unset, .unset, .unset, .unset, .unset, .unset, .unset, .unset] [])) rfl (hb hby at_30) (by decide) (by decide)
  obtain ⟨b1, g_b1⟩ : ∃ z, z = h0.size := ⟨_, rfl⟩
  rw [← g_b1] at A1 D1 st1
  have n_b1 : n0 ≤ b1 := Nat.le_trans Z0 (Nat.le_of_eq g_b1.symm)
  have sz_b1 : h0.size ≤ b1 := Nat.le_trans (Keep.refl h0 []).1 (Nat.le_of_eq g_b1.symm)
  have K1 : Keep h0 h1 [] := (Keep.refl h0 []).ext E1
  have F_number_b1 : Fld Z h1 b1 "com/example/aliquot/aliquot/Task" "number" "J" (.long (0 : Int64)) := D1 (Or.inr (ow17 hw)) (ty := .long) (by decide)
  have F_firstRecord_b1 : Fld Z h1 b1 "com/example/aliquot/aliquot/Task" "firstRecord" "J" (.long (0 : Int64)) := D1 (Or.inr (ow19 hw)) (ty := .long) (by decide)
  have F_lastRecord_b1 : Fld Z h1 b1 "com/example/aliquot/aliquot/Task" "lastRecord" "J" (.long (0 : Int64)) := D1 (Or.inr (ow21 hw)) (ty := .long) (by decide)
  have F_firstWithoutIdentifier_b1 : Fld Z h1 b1 "com/example/aliquot/aliquot/Task" "firstWithoutIdentifier" "J" (.long (0 : Int64)) := D1 (Or.inr (ow23 hw)) (ty := .long) (by decide)
  refine own_go (T' := T1) (f' := (mkF m 41 #[.val (.long q0), .second, .val (.long q1), .second, .val (.long q2), .second, .val (.long q3), .second, .val (.long q4), .second, .val (.long zf), .second, .val (.long zn), .second, .val (.long zm), .second, .unset, .unset, .unset, .unset, .unset, .unset, .unset, .unset, .unset] [(.long zn), (.long zf), (.long zf), (.long q0), (.ref b1), (.ref b1)])) (fun _ k => st1 _ (XS.dup X1.here hx rfl (hb hby at_33) rfl rfl (XS.lloadN X1.here hx rfl (hb hby at_34) rfl (XS.lload X1.here hx rfl (hb hby at_35) rfl (XS.lload X1.here hx rfl (hb hby at_37) rfl (XS.lload X1.here hx rfl (hb hby at_39) rfl k)))))) ?_
  refine own_go (T' := T1) (f' := (mkF m 46 #[.val (.long q0), .second, .val (.long q1), .second, .val (.long q2), .second, .val (.long q3), .second, .val (.long q4), .second, .val (.long zf), .second, .val (.long zn), .second, .val (.long zm), .second, .unset, .unset, .unset, .unset, .unset, .unset, .unset, .unset, .unset] [(.long q4), (.long ((zf + zn) - (1 : Int64))), (.long zf), (.long q0), (.ref b1), (.ref b1)])) (fun _ k => XS.ladd X1.here hx rfl (hb hby at_41) rfl (XS.lconst X1.here hx rfl (hb hby at_42) (XS.lsub X1.here hx rfl (hb hby at_43) rfl (XS.lload X1.here hx rfl (hb hby at_44) rfl k)))) ?_
  obtain ⟨_, _, ⟨T2, L2, k2, n2⟩, -, X2, ⟨Lc2, hQ2, l2, y2, z2⟩, st2⟩ := X1.specialBack hx (y := mn1) rfl hown (mvT hZ (ow5 hw)) (mvT hZ (ow6 hw)) (mvT hZ (ow7 hw)) (by decide) (backOf (W := 1) (rm1 l Z a0 hw [] b1 q0 zf ((zf + zn) - (1 : Int64)) q4 _ _ _ _ h1 n0 (Nat.le_trans Z0 E1.1) A1 n_b1 F_number_b1 F_firstRecord_b1 F_lastRecord_b1 F_firstWithoutIdentifier_b1) hZ (ow7 hw) (ow4 hw) (by decide) (by decide)) (g := (mkF m 46 #[.val (.long q0), .second, .val (.long q1), .second, .val (.long q2), .second, .val (.long q3), .second, .val (.long q4), .second, .val (.long zf), .second, .val (.long zn), .second, .val (.long zm), .second, .unset, .unset, .unset, .unset, .unset, .unset, .unset, .unset, .unset] [(.long q4), (.long ((zf + zn) - (1 : Int64))), (.long zf), (.long q0), (.ref b1), (.ref b1)])) rfl (by rw [hml]; rfl) (Steps.refl _) (a := b1) (argsL := [(.long q0), (.long zf), (.long ((zf + zn) - (1 : Int64))), (.long q4)]) (rest := [(.ref b1)]) (lenOf pd2 rfl) rfl (by show 2 * 0 + _ ≤ _; exact Nat.le_of_eq rfl) (hb hby at_46) (fun _ _ => ⟨rfl, e1, (by decide : 1 + 0 ≤ _), (by decide : 4 + 0 ≤ _)⟩)
  dsimp only [Pt.U, Pt.locs, Pt.cells, Pt.slots] at X2 l2 y2 z2 st2 hQ2
  subst l2 y2 z2
  obtain ⟨rfl, N2q, K2, gE2, gF2_0, gF2_1, gF2_2, gF2_3⟩ := hQ2
  have N2 := Fr.app N0 N2q
  have KK2 : Keep h0 T2.heap [] := Keep.trans K1 K2 (allS (Or.inr sz_b1) all0)
  refine own_go (T' := T2) (f' := (mkF m 51 #[.val (.long q0), .second, .val (.long q1), .second, .val (.long q2), .second, .val (.long q3), .second, .val (.long q4), .second, .val (.long zf), .second, .val (.long zn), .second, .val (.long zm), .second, .val (.ref b1), .unset, .unset, .unset, .unset, .unset, .unset, .unset, .unset] [])) (fun _ k => st2.trans (XS.astore X2.here hx rfl (hb hby at_49) rfl rfl (l' := #[.val (.long q0), .second, .val (.long q1), .second, .val (.long q2), .second, .val (.long q3), .second, .val (.long q4), .second, .val (.long zf), .second, .val (.long zn), .second, .val (.long zm), .second, .val (.ref b1), .unset, .unset, .unset, .unset, .unset, .unset, .unset, .unset]) rfl k)) ?_
  obtain ⟨T3, h3, X3, e3, E3, A3, D3, -, st3⟩ := newO X2 hx hZ hown (ow2 hw) (ow3 hw) (ow4 hw) rfl (g := (mkF m 51 #[.val (.long q0), .second, .val (.long q1), .second, .val (.long q2), .second, .val (.long q3), .second, .val (.long q4), .second, .val (.long zf), .second, .val (.long zn), .second, .val (.long zm), .second, .val (.ref b1), .unset, .unset, .unset, .unset, .unset, .unset, .unset, .unset] [])) rfl (hb hby at_51) (by decide) (by decide)
  obtain ⟨b3, g_b3⟩ : ∃ z, z = T2.heap.size := ⟨_, rfl⟩
  rw [← g_b3] at A3 D3 st3
  have n_b3 : n0 ≤ b3 := Nat.le_trans (Nat.le_trans (Nat.le_trans Z0 E1.1) K2.1) (Nat.le_of_eq g_b3.symm)
  have sz_b3 : h0.size ≤ b3 := Nat.le_trans KK2.1 (Nat.le_of_eq g_b3.symm)
  have K3 : Keep h0 h3 [] := KK2.ext E3
  have F_number_b3 : Fld Z h3 b3 "com/example/aliquot/aliquot/Task" "number" "J" (.long (0 : Int64)) := D3 (Or.inr (ow17 hw)) (ty := .long) (by decide)
  have F_firstRecord_b3 : Fld Z h3 b3 "com/example/aliquot/aliquot/Task" "firstRecord" "J" (.long (0 : Int64)) := D3 (Or.inr (ow19 hw)) (ty := .long) (by decide)
  have F_lastRecord_b3 : Fld Z h3 b3 "com/example/aliquot/aliquot/Task" "lastRecord" "J" (.long (0 : Int64)) := D3 (Or.inr (ow21 hw)) (ty := .long) (by decide)
  have F_firstWithoutIdentifier_b3 : Fld Z h3 b3 "com/example/aliquot/aliquot/Task" "firstWithoutIdentifier" "J" (.long (0 : Int64)) := D3 (Or.inr (ow23 hw)) (ty := .long) (by decide)
  refine own_go (T' := T3) (f' := (mkF m 62 #[.val (.long q0), .second, .val (.long q1), .second, .val (.long q2), .second, .val (.long q3), .second, .val (.long q4), .second, .val (.long zf), .second, .val (.long zn), .second, .val (.long zm), .second, .val (.ref b1), .unset, .unset, .unset, .unset, .unset, .unset, .unset, .unset] [(.long zm), (.long zf), (.long zf), (.long q0), (.ref b3), (.ref b3)])) (fun _ k => st3 _ (XS.dup X3.here hx rfl (hb hby at_54) rfl rfl (XS.lloadN X3.here hx rfl (hb hby at_55) rfl (XS.lload X3.here hx rfl (hb hby at_56) rfl (XS.lload X3.here hx rfl (hb hby at_58) rfl (XS.lload X3.here hx rfl (hb hby at_60) rfl k)))))) ?_
  refine own_go (T' := T3) (f' := (mkF m 67 #[.val (.long q0), .second, .val (.long q1), .second, .val (.long q2), .second, .val (.long q3), .second, .val (.long q4), .second, .val (.long zf), .second, .val (.long zn), .second, .val (.long zm), .second, .val (.ref b1), .unset, .unset, .unset, .unset, .unset, .unset, .unset, .unset] [(.long q4), (.long ((zf + zm) - (1 : Int64))), (.long zf), (.long q0), (.ref b3), (.ref b3)])) (fun _ k => XS.ladd X3.here hx rfl (hb hby at_62) rfl (XS.lconst X3.here hx rfl (hb hby at_63) (XS.lsub X3.here hx rfl (hb hby at_64) rfl (XS.lload X3.here hx rfl (hb hby at_65) rfl k)))) ?_
  obtain ⟨_, _, ⟨T4, L4, k4, n4⟩, -, X4, ⟨Lc4, hQ4, l4, y4, z4⟩, st4⟩ := X3.specialBack hx (y := mn1) rfl hown (mvT hZ (ow5 hw)) (mvT hZ (ow6 hw)) (mvT hZ (ow7 hw)) (by decide) (backOf (W := 1) (rm1 l Z a0 hw [] b3 q0 zf ((zf + zm) - (1 : Int64)) q4 _ _ _ _ h3 n0 (Nat.le_trans (Nat.le_trans (Nat.le_trans Z0 E1.1) K2.1) E3.1) A3 n_b3 F_number_b3 F_firstRecord_b3 F_lastRecord_b3 F_firstWithoutIdentifier_b3) hZ (ow7 hw) (ow4 hw) (by decide) (by decide)) (g := (mkF m 67 #[.val (.long q0), .second, .val (.long q1), .second, .val (.long q2), .second, .val (.long q3), .second, .val (.long q4), .second, .val (.long zf), .second, .val (.long zn), .second, .val (.long zm), .second, .val (.ref b1), .unset, .unset, .unset, .unset, .unset, .unset, .unset, .unset] [(.long q4), (.long ((zf + zm) - (1 : Int64))), (.long zf), (.long q0), (.ref b3), (.ref b3)])) rfl (by rw [hml]; rfl) (Steps.refl _) (a := b3) (argsL := [(.long q0), (.long zf), (.long ((zf + zm) - (1 : Int64))), (.long q4)]) (rest := [(.ref b3)]) (lenOf pd2 rfl) rfl (by show 2 * 0 + _ ≤ _; exact Nat.le_of_eq rfl) (hb hby at_67) (fun _ _ => ⟨rfl, e3, (by decide : 2 + 0 ≤ _), (by decide : 8 + 0 ≤ _)⟩)
  dsimp only [Pt.U, Pt.locs, Pt.cells, Pt.slots] at X4 l4 y4 z4 st4 hQ4
  subst l4 y4 z4
  obtain ⟨rfl, N4q, K4, gE4, gF4_0, gF4_1, gF4_2, gF4_3⟩ := hQ4
  have N4 := Fr.app N2 N4q
  have KK4 : Keep h0 T4.heap [] := Keep.trans K3 K4 (allS (Or.inr sz_b3) all0)
  refine own_go (T' := T4) (f' := (mkF m 72 #[.val (.long q0), .second, .val (.long q1), .second, .val (.long q2), .second, .val (.long q3), .second, .val (.long q4), .second, .val (.long zf), .second, .val (.long zn), .second, .val (.long zm), .second, .val (.ref b1), .val (.ref b3), .unset, .unset, .unset, .unset, .unset, .unset, .unset] [])) (fun _ k => st4.trans (XS.astore X4.here hx rfl (hb hby at_70) rfl rfl (l' := #[.val (.long q0), .second, .val (.long q1), .second, .val (.long q2), .second, .val (.long q3), .second, .val (.long q4), .second, .val (.long zf), .second, .val (.long zn), .second, .val (.long zm), .second, .val (.ref b1), .val (.ref b3), .unset, .unset, .unset, .unset, .unset, .unset, .unset]) rfl k)) ?_
  obtain ⟨T5, h5, X5, e5, E5, A5, D5, -, st5⟩ := newO X4 hx hZ hown (ow2 hw) (ow3 hw) (ow4 hw) rfl (g := (mkF m 72 #[.val (.long q0), .second, .val (.long q1), .second, .val (.long q2), .second, .val (.long q3), .second, .val (.long q4), .second, .val (.long zf), .second, .val (.long zn), .second, .val (.long zm), .second, .val (.ref b1), .val (.ref b3), .unset, .unset, .unset, .unset, .unset, .unset, .unset] [])) rfl (hb hby at_72) (by decide) (by decide)
  obtain ⟨b5, g_b5⟩ : ∃ z, z = T4.heap.size := ⟨_, rfl⟩
  rw [← g_b5] at A5 D5 st5
  have n_b5 : n0 ≤ b5 := Nat.le_trans (Nat.le_trans (Nat.le_trans (Nat.le_trans (Nat.le_trans Z0 E1.1) K2.1) E3.1) K4.1) (Nat.le_of_eq g_b5.symm)
  have sz_b5 : h0.size ≤ b5 := Nat.le_trans KK4.1 (Nat.le_of_eq g_b5.symm)
  have K5 : Keep h0 h5 [] := KK4.ext E5
  have F_number_b5 : Fld Z h5 b5 "com/example/aliquot/aliquot/Task" "number" "J" (.long (0 : Int64)) := D5 (Or.inr (ow17 hw)) (ty := .long) (by decide)
  have F_firstRecord_b5 : Fld Z h5 b5 "com/example/aliquot/aliquot/Task" "firstRecord" "J" (.long (0 : Int64)) := D5 (Or.inr (ow19 hw)) (ty := .long) (by decide)
  have F_lastRecord_b5 : Fld Z h5 b5 "com/example/aliquot/aliquot/Task" "lastRecord" "J" (.long (0 : Int64)) := D5 (Or.inr (ow21 hw)) (ty := .long) (by decide)
  have F_firstWithoutIdentifier_b5 : Fld Z h5 b5 "com/example/aliquot/aliquot/Task" "firstWithoutIdentifier" "J" (.long (0 : Int64)) := D5 (Or.inr (ow23 hw)) (ty := .long) (by decide)
  refine own_go (T' := T5) (f' := (mkF m 82 #[.val (.long q0), .second, .val (.long q1), .second, .val (.long q2), .second, .val (.long q3), .second, .val (.long q4), .second, .val (.long zf), .second, .val (.long zn), .second, .val (.long zm), .second, .val (.ref b1), .val (.ref b3), .unset, .unset, .unset, .unset, .unset, .unset, .unset] [(.long (zf + zm)), (.long q0), (.ref b5), (.ref b5)])) (fun _ k => st5 _ (XS.dup X5.here hx rfl (hb hby at_75) rfl rfl (XS.lloadN X5.here hx rfl (hb hby at_76) rfl (XS.lload X5.here hx rfl (hb hby at_77) rfl (XS.lload X5.here hx rfl (hb hby at_79) rfl (XS.ladd X5.here hx rfl (hb hby at_81) rfl k)))))) ?_
  refine own_go (T' := T5) (f' := (mkF m 91 #[.val (.long q0), .second, .val (.long q1), .second, .val (.long q2), .second, .val (.long q3), .second, .val (.long q4), .second, .val (.long zf), .second, .val (.long zn), .second, .val (.long zm), .second, .val (.ref b1), .val (.ref b3), .unset, .unset, .unset, .unset, .unset, .unset, .unset] [(.long q4), (.long ((zf + zn) - (1 : Int64))), (.long (zf + zm)), (.long q0), (.ref b5), (.ref b5)])) (fun _ k => XS.lload X5.here hx rfl (hb hby at_82) rfl (XS.lload X5.here hx rfl (hb hby at_84) rfl (XS.ladd X5.here hx rfl (hb hby at_86) rfl (XS.lconst X5.here hx rfl (hb hby at_87) (XS.lsub X5.here hx rfl (hb hby at_88) rfl (XS.lload X5.here hx rfl (hb hby at_89) rfl k)))))) ?_
  obtain ⟨_, _, ⟨T6, L6, k6, n6⟩, -, X6, ⟨Lc6, hQ6, l6, y6, z6⟩, st6⟩ := X5.specialBack hx (y := mn1) rfl hown (mvT hZ (ow5 hw)) (mvT hZ (ow6 hw)) (mvT hZ (ow7 hw)) (by decide) (backOf (W := 1) (rm1 l Z a0 hw [] b5 q0 (zf + zm) ((zf + zn) - (1 : Int64)) q4 _ _ _ _ h5 n0 (Nat.le_trans (Nat.le_trans (Nat.le_trans (Nat.le_trans (Nat.le_trans Z0 E1.1) K2.1) E3.1) K4.1) E5.1) A5 n_b5 F_number_b5 F_firstRecord_b5 F_lastRecord_b5 F_firstWithoutIdentifier_b5) hZ (ow7 hw) (ow4 hw) (by decide) (by decide)) (g := (mkF m 91 #[.val (.long q0), .second, .val (.long q1), .second, .val (.long q2), .second, .val (.long q3), .second, .val (.long q4), .second, .val (.long zf), .second, .val (.long zn), .second, .val (.long zm), .second, .val (.ref b1), .val (.ref b3), .unset, .unset, .unset, .unset, .unset, .unset, .unset] [(.long q4), (.long ((zf + zn) - (1 : Int64))), (.long (zf + zm)), (.long q0), (.ref b5), (.ref b5)])) rfl (by rw [hml]; rfl) (Steps.refl _) (a := b5) (argsL := [(.long q0), (.long (zf + zm)), (.long ((zf + zn) - (1 : Int64))), (.long q4)]) (rest := [(.ref b5)]) (lenOf pd2 rfl) rfl (by show 2 * 0 + _ ≤ _; exact Nat.le_of_eq rfl) (hb hby at_91) (fun _ _ => ⟨rfl, e5, (by decide : 3 + 0 ≤ _), (by decide : 12 + 0 ≤ _)⟩)
  dsimp only [Pt.U, Pt.locs, Pt.cells, Pt.slots] at X6 l6 y6 z6 st6 hQ6
  subst l6 y6 z6
  obtain ⟨rfl, N6q, K6, gE6, gF6_0, gF6_1, gF6_2, gF6_3⟩ := hQ6
  have N6 := Fr.app N4 N6q
  have KK6 : Keep h0 T6.heap [] := Keep.trans K5 K6 (allS (Or.inr sz_b5) all0)
  refine own_go (T' := T6) (f' := (mkF m 98 #[.val (.long q0), .second, .val (.long q1), .second, .val (.long q2), .second, .val (.long q3), .second, .val (.long q4), .second, .val (.long zf), .second, .val (.long zn), .second, .val (.long zm), .second, .val (.ref b1), .val (.ref b3), .val (.ref b5), .unset, .unset, .unset, .unset, .unset, .unset] [(.ref b1)])) (fun _ k => st6.trans (XS.astore X6.here hx rfl (hb hby at_94) rfl rfl (l' := #[.val (.long q0), .second, .val (.long q1), .second, .val (.long q2), .second, .val (.long q3), .second, .val (.long q4), .second, .val (.long zf), .second, .val (.long zn), .second, .val (.long zm), .second, .val (.ref b1), .val (.ref b3), .val (.ref b5), .unset, .unset, .unset, .unset, .unset, .unset]) rfl (XS.aload X6.here hx rfl (hb hby at_96) rfl rfl k))) ?_
  obtain ⟨cq7, kq7, q7a, q7b, q7c⟩ := isOf hZ rfl ((((gE2.ext E3).keep K4).ext E5).keep K6)
  obtain ⟨_, _, ⟨T7, L7, k7, n7⟩, -, X7, ⟨Lc7, hQ7, l7, y7, z7⟩, st7⟩ := X6.virtualBack hx (y := mn2) (z := mn2) hown (mvT hZ (ow24 hw)) (mvT hZ (ow25 hw)) (notFace_of_selects (args := #[]) (mvT hZ (ow27 hw))) (mvT hZ (ow27 hw)) (mvT hZ (ow26 hw)) (by decide) (backOf (W := 0) (rm4 l Z a0 hw [] b1 zf ((zf + zn) - (1 : Int64)) T6.heap n0 (Nat.le_trans (Nat.le_trans (Nat.le_trans (Nat.le_trans (Nat.le_trans (Nat.le_trans Z0 E1.1) K2.1) E3.1) K4.1) E5.1) K6.1) ((((gF2_1.ext E3).keep K4 (ninS (Nat.ne_of_lt (Nat.lt_of_lt_of_le gE2.lt (Nat.le_of_eq g_b3.symm))) nin0)).ext E5).keep K6 (ninS (Nat.ne_of_lt (Nat.lt_of_lt_of_le ((gE2.ext E3).keep K4).lt (Nat.le_of_eq g_b5.symm))) nin0)) ((((gF2_2.ext E3).keep K4 (ninS (Nat.ne_of_lt (Nat.lt_of_lt_of_le gE2.lt (Nat.le_of_eq g_b3.symm))) nin0)).ext E5).keep K6 (ninS (Nat.ne_of_lt (Nat.lt_of_lt_of_le ((gE2.ext E3).keep K4).lt (Nat.le_of_eq g_b5.symm))) nin0))) hZ (ow28 hw) (ow4 hw) (by decide) (by decide)) q7a q7c (g := (mkF m 98 #[.val (.long q0), .second, .val (.long q1), .second, .val (.long q2), .second, .val (.long q3), .second, .val (.long q4), .second, .val (.long zf), .second, .val (.long zn), .second, .val (.long zm), .second, .val (.ref b1), .val (.ref b3), .val (.ref b5), .unset, .unset, .unset, .unset, .unset, .unset] [(.ref b1)])) rfl (by rw [hml]; rfl) (Steps.refl _) (argsL := []) (rest := []) (lenOf pd0 rfl) rfl (by show 2 * 0 + _ ≤ _; exact Nat.le_of_eq rfl) (hb hby at_98) (fun _ _ => ⟨rfl, rfl, (by decide : 3 + 0 ≤ _), (by decide : 12 + 0 ≤ _)⟩)
  dsimp only [Pt.U, Pt.locs, Pt.cells, Pt.slots] at X7 l7 y7 z7 st7 hQ7
  subst l7 y7 z7
  obtain ⟨rfl, N7q, hh7⟩ := hQ7
  have N7 := Fr.app N6 N7q
  refine own_go (T' := T7) (f' := (mkF m 105 #[.val (.long q0), .second, .val (.long q1), .second, .val (.long q2), .second, .val (.long q3), .second, .val (.long q4), .second, .val (.long zf), .second, .val (.long zn), .second, .val (.long zm), .second, .val (.ref b1), .val (.ref b3), .val (.ref b5), .val (.long ((((zf + zn) - (1 : Int64)) - zf) + (1 : Int64))), .second, .unset, .unset, .unset, .unset] [(.ref b3)])) (fun _ k => st7.trans (XS.lstore X7.here hx rfl (hb hby at_101) rfl (l' := #[.val (.long q0), .second, .val (.long q1), .second, .val (.long q2), .second, .val (.long q3), .second, .val (.long q4), .second, .val (.long zf), .second, .val (.long zn), .second, .val (.long zm), .second, .val (.ref b1), .val (.ref b3), .val (.ref b5), .val (.long ((((zf + zn) - (1 : Int64)) - zf) + (1 : Int64))), .second, .unset, .unset, .unset, .unset]) rfl (XS.aload X7.here hx rfl (hb hby at_103) rfl rfl k))) ?_
  obtain ⟨cq8, kq8, q8a, q8b, q8c⟩ := isOf hZ hh7 ((gE4.ext E5).keep K6)
  obtain ⟨_, _, ⟨T8, L8, k8, n8⟩, -, X8, ⟨Lc8, hQ8, l8, y8, z8⟩, st8⟩ := X7.virtualBack hx (y := mn2) (z := mn2) hown (mvT hZ (ow24 hw)) (mvT hZ (ow25 hw)) (notFace_of_selects (args := #[]) (mvT hZ (ow27 hw))) (mvT hZ (ow27 hw)) (mvT hZ (ow26 hw)) (by decide) (backOf (W := 0) (rm4 l Z a0 hw [] b3 zf ((zf + zm) - (1 : Int64)) T6.heap n0 (Nat.le_trans (Nat.le_trans (Nat.le_trans (Nat.le_trans (Nat.le_trans (Nat.le_trans Z0 E1.1) K2.1) E3.1) K4.1) E5.1) K6.1) ((gF4_1.ext E5).keep K6 (ninS (Nat.ne_of_lt (Nat.lt_of_lt_of_le gE4.lt (Nat.le_of_eq g_b5.symm))) nin0)) ((gF4_2.ext E5).keep K6 (ninS (Nat.ne_of_lt (Nat.lt_of_lt_of_le gE4.lt (Nat.le_of_eq g_b5.symm))) nin0))) hZ (ow28 hw) (ow4 hw) (by decide) (by decide)) q8a q8c (g := (mkF m 105 #[.val (.long q0), .second, .val (.long q1), .second, .val (.long q2), .second, .val (.long q3), .second, .val (.long q4), .second, .val (.long zf), .second, .val (.long zn), .second, .val (.long zm), .second, .val (.ref b1), .val (.ref b3), .val (.ref b5), .val (.long ((((zf + zn) - (1 : Int64)) - zf) + (1 : Int64))), .second, .unset, .unset, .unset, .unset] [(.ref b3)])) rfl (by rw [hml]; rfl) (Steps.refl _) (argsL := []) (rest := []) (lenOf pd0 rfl) rfl (by show 2 * 0 + _ ≤ _; exact Nat.le_of_eq rfl) (hb hby at_105) (fun _ _ => ⟨rfl, hh7, (by decide : 3 + 0 ≤ _), (by decide : 12 + 0 ≤ _)⟩)
  dsimp only [Pt.U, Pt.locs, Pt.cells, Pt.slots] at X8 l8 y8 z8 st8 hQ8
  subst l8 y8 z8
  obtain ⟨rfl, N8q, hh8⟩ := hQ8
  have N8 := Fr.app N7 N8q
  refine own_go (T' := T8) (f' := (mkF m 112 #[.val (.long q0), .second, .val (.long q1), .second, .val (.long q2), .second, .val (.long q3), .second, .val (.long q4), .second, .val (.long zf), .second, .val (.long zn), .second, .val (.long zm), .second, .val (.ref b1), .val (.ref b3), .val (.ref b5), .val (.long ((((zf + zn) - (1 : Int64)) - zf) + (1 : Int64))), .second, .val (.long ((((zf + zm) - (1 : Int64)) - zf) + (1 : Int64))), .second, .unset, .unset] [(.ref b5)])) (fun _ k => st8.trans (XS.lstore X8.here hx rfl (hb hby at_108) rfl (l' := #[.val (.long q0), .second, .val (.long q1), .second, .val (.long q2), .second, .val (.long q3), .second, .val (.long q4), .second, .val (.long zf), .second, .val (.long zn), .second, .val (.long zm), .second, .val (.ref b1), .val (.ref b3), .val (.ref b5), .val (.long ((((zf + zn) - (1 : Int64)) - zf) + (1 : Int64))), .second, .val (.long ((((zf + zm) - (1 : Int64)) - zf) + (1 : Int64))), .second, .unset, .unset]) rfl (XS.aload X8.here hx rfl (hb hby at_110) rfl rfl k))) ?_
  obtain ⟨cq9, kq9, q9a, q9b, q9c⟩ := isOf hZ hh8 gE6
  obtain ⟨_, _, ⟨T9, L9, k9, n9⟩, -, X9, ⟨Lc9, hQ9, l9, y9, z9⟩, st9⟩ := X8.virtualBack hx (y := mn2) (z := mn2) hown (mvT hZ (ow24 hw)) (mvT hZ (ow25 hw)) (notFace_of_selects (args := #[]) (mvT hZ (ow27 hw))) (mvT hZ (ow27 hw)) (mvT hZ (ow26 hw)) (by decide) (backOf (W := 0) (rm4 l Z a0 hw [] b5 (zf + zm) ((zf + zn) - (1 : Int64)) T6.heap n0 (Nat.le_trans (Nat.le_trans (Nat.le_trans (Nat.le_trans (Nat.le_trans (Nat.le_trans Z0 E1.1) K2.1) E3.1) K4.1) E5.1) K6.1) gF6_1 gF6_2) hZ (ow28 hw) (ow4 hw) (by decide) (by decide)) q9a q9c (g := (mkF m 112 #[.val (.long q0), .second, .val (.long q1), .second, .val (.long q2), .second, .val (.long q3), .second, .val (.long q4), .second, .val (.long zf), .second, .val (.long zn), .second, .val (.long zm), .second, .val (.ref b1), .val (.ref b3), .val (.ref b5), .val (.long ((((zf + zn) - (1 : Int64)) - zf) + (1 : Int64))), .second, .val (.long ((((zf + zm) - (1 : Int64)) - zf) + (1 : Int64))), .second, .unset, .unset] [(.ref b5)])) rfl (by rw [hml]; rfl) (Steps.refl _) (argsL := []) (rest := []) (lenOf pd0 rfl) rfl (by show 2 * 0 + _ ≤ _; exact Nat.le_of_eq rfl) (hb hby at_112) (fun _ _ => ⟨rfl, hh8, (by decide : 3 + 0 ≤ _), (by decide : 12 + 0 ≤ _)⟩)
  dsimp only [Pt.U, Pt.locs, Pt.cells, Pt.slots] at X9 l9 y9 z9 st9 hQ9
  subst l9 y9 z9
  obtain ⟨rfl, N9q, hh9⟩ := hQ9
  have N9 := Fr.app N8 N9q
  refine own_go (T' := T9) (f' := (mkF m 125 #[.val (.long q0), .second, .val (.long q1), .second, .val (.long q2), .second, .val (.long q3), .second, .val (.long q4), .second, .val (.long zf), .second, .val (.long zn), .second, .val (.long zm), .second, .val (.ref b1), .val (.ref b3), .val (.ref b5), .val (.long ((((zf + zn) - (1 : Int64)) - zf) + (1 : Int64))), .second, .val (.long ((((zf + zm) - (1 : Int64)) - zf) + (1 : Int64))), .second, .val (.long ((((zf + zn) - (1 : Int64)) - (zf + zm)) + (1 : Int64))), .second] [])) (fun _ k => st9.trans (XS.lstore X9.here hx rfl (hb hby at_115) rfl (l' := #[.val (.long q0), .second, .val (.long q1), .second, .val (.long q2), .second, .val (.long q3), .second, .val (.long q4), .second, .val (.long zf), .second, .val (.long zn), .second, .val (.long zm), .second, .val (.ref b1), .val (.ref b3), .val (.ref b5), .val (.long ((((zf + zn) - (1 : Int64)) - zf) + (1 : Int64))), .second, .val (.long ((((zf + zm) - (1 : Int64)) - zf) + (1 : Int64))), .second, .val (.long ((((zf + zn) - (1 : Int64)) - (zf + zm)) + (1 : Int64))), .second]) rfl (XS.lload X9.here hx rfl (hb hby at_117) rfl (XS.lload X9.here hx rfl (hb hby at_119) rfl (XS.lcmp X9.here hx rfl (hb hby at_121) rfl (XS.ifNo X9.here hx rfl (hb hby at_122) rfl ((if0 _ _).trans (teq ((own_lc_eq (a := ((((zf + zn) - (1 : Int64)) - zf) + (1 : Int64))) (b := zn)).mpr (own_r1 zf zn))).2) k)))))) ?_
  refine own_go (T' := T9) (f' := (mkF m 137 #[.val (.long q0), .second, .val (.long q1), .second, .val (.long q2), .second, .val (.long q3), .second, .val (.long q4), .second, .val (.long zf), .second, .val (.long zn), .second, .val (.long zm), .second, .val (.ref b1), .val (.ref b3), .val (.ref b5), .val (.long ((((zf + zn) - (1 : Int64)) - zf) + (1 : Int64))), .second, .val (.long ((((zf + zm) - (1 : Int64)) - zf) + (1 : Int64))), .second, .val (.long ((((zf + zn) - (1 : Int64)) - (zf + zm)) + (1 : Int64))), .second] [(.long zn), (.long ((((zf + zn) - (1 : Int64)) - (zf + zm)) + (1 : Int64)))])) (fun _ k => XS.lload X9.here hx rfl (hb hby at_125) rfl (XS.lload X9.here hx rfl (hb hby at_127) rfl (XS.lcmp X9.here hx rfl (hb hby at_129) rfl (XS.ifNo X9.here hx rfl (hb hby at_130) rfl ((if0 _ _).trans (teq ((own_lc_eq (a := ((((zf + zm) - (1 : Int64)) - zf) + (1 : Int64))) (b := zm)).mpr (own_r1 zf zm))).2) (XS.lload X9.here hx rfl (hb hby at_133) rfl (XS.lload X9.here hx rfl (hb hby at_135) rfl k)))))) ?_
  refine own_go (T' := T9) (f' := (mkF m 148 #[.val (.long q0), .second, .val (.long q1), .second, .val (.long q2), .second, .val (.long q3), .second, .val (.long q4), .second, .val (.long zf), .second, .val (.long zn), .second, .val (.long zm), .second, .val (.ref b1), .val (.ref b3), .val (.ref b5), .val (.long ((((zf + zn) - (1 : Int64)) - zf) + (1 : Int64))), .second, .val (.long ((((zf + zm) - (1 : Int64)) - zf) + (1 : Int64))), .second, .val (.long ((((zf + zn) - (1 : Int64)) - (zf + zm)) + (1 : Int64))), .second] [(.long ((((zf + zn) - (1 : Int64)) - (zf + zm)) + (1 : Int64))), (.long ((((zf + zm) - (1 : Int64)) - zf) + (1 : Int64)))])) (fun _ k => XS.lload X9.here hx rfl (hb hby at_137) rfl (XS.lsub X9.here hx rfl (hb hby at_139) rfl (XS.lcmp X9.here hx rfl (hb hby at_140) rfl (XS.ifNo X9.here hx rfl (hb hby at_141) rfl ((if0 _ _).trans (teq ((own_lc_eq (a := ((((zf + zn) - (1 : Int64)) - (zf + zm)) + (1 : Int64))) (b := (zn - zm))).mpr (own_r2 zf zn zm))).2) (XS.lload X9.here hx rfl (hb hby at_144) rfl (XS.lload X9.here hx rfl (hb hby at_146) rfl k)))))) ?_
  refine own_go (T' := T9) (f' := (mkF m 160 #[.val (.long q0), .second, .val (.long q1), .second, .val (.long q2), .second, .val (.long q3), .second, .val (.long q4), .second, .val (.long zf), .second, .val (.long zn), .second, .val (.long zm), .second, .val (.ref b1), .val (.ref b3), .val (.ref b5), .val (.long ((((zf + zn) - (1 : Int64)) - zf) + (1 : Int64))), .second, .val (.long ((((zf + zm) - (1 : Int64)) - zf) + (1 : Int64))), .second, .val (.long ((((zf + zn) - (1 : Int64)) - (zf + zm)) + (1 : Int64))), .second] [(.int (1 : Int32))])) (fun _ k => XS.ladd X9.here hx rfl (hb hby at_148) rfl (XS.lload X9.here hx rfl (hb hby at_149) rfl (XS.lcmp X9.here hx rfl (hb hby at_151) rfl (XS.ifNo X9.here hx rfl (hb hby at_152) rfl ((if0 _ _).trans (teq ((own_lc_eq (a := (((((zf + zm) - (1 : Int64)) - zf) + (1 : Int64)) + ((((zf + zn) - (1 : Int64)) - (zf + zm)) + (1 : Int64)))) (b := ((((zf + zn) - (1 : Int64)) - zf) + (1 : Int64)))).mpr (own_r3 zf zn zm))).2) (XS.iconst X9.here hx rfl (hb hby at_155) (XS.goto X9.here hx rfl (pc0 := 156) (pc' := 160) rfl (hb hby at_156) (by decide) (by decide) k)))))) ?_
  refine own_ret X9 (v := some (.int (1 : Int32))) (fun h => by rw [Bd.returns] at h; cases h) Bd.notSynchronized (fun fs hr => retN X9 hx (t := .boolean) Bd.returns (by simp) (hb hby at_160) hr) ?_ (by decide) (by decide)
  show Q0 Z q0 q1 q2 q3 q4 h0 n0 _ T9.heap _
  exact ⟨rfl, N9⟩
set_option maxRecDepth 65536 in
set_option maxHeartbeats 40000000 in
theorem comes_1 {Post : Tables → Env → Array Value → State → Outcome → State → Prop} (hpost : ∀ tb e args s v u, (limb_1_1.after args s (.returned v) u = true ∧ limb_1_2.after args s (.returned v) u = true ∧ True) → FrameEnd s (.returned v) u (Jvm.fieldLocs frame_1_writes args s ++ Jvm.arrayLocs frame_1_arrays args s ++ Jvm.staticLocs frame_1_statics s) 16 128 → Post tb e args s (.returned v) u) :
    ArmFor flags0 classFile x code maxLocals ret World_1 tables_1 room_1 Calls_1 rest_1 Pre_1 Post := by
  intro l hfl _ _ p e ha hc hk s m args below hf hA hF happ hP
  obtain ⟨hcalls, hrest, hpre⟩ := hP
  obtain ⟨-, -, -, hnamed, -, -, -, hat⟩ := (Spec.applies_iff hf).mp happ
  obtain ⟨hg, hn⟩ := and_e (Cond.before_iff.mp (show (Jvm.Cond.and given_1 narrow_1).before args s = true from hpre))
  obtain ⟨hg_2, hg_3⟩ := and_e hg
  obtain ⟨hg_4, hg_5⟩ := and_e hg_3
  obtain ⟨hg_6, hg_7⟩ := and_e hg_5
  obtain ⟨hg_8, hg_9⟩ := and_e hg_7
  obtain ⟨hg_10, hg_11⟩ := and_e hg_9
  obtain ⟨w0, w1, w2, w3, w4, rfl⟩ : ∃ w0 w1 w2 w3 w4 : Value, args = #[w0, w1, w2, w3, w4] := by
    have hs : args.size = 5 := by simpa [Cond.value, given_1] using hg_2
    obtain ⟨L⟩ := args
    match L, hs with
    | [w0, w1, w2, w3, w4], _ => exact ⟨w0, w1, w2, w3, w4, rfl⟩
  have hw := fun d (hd : d ∈ tables_1) => atoms_spec (ws := Jvm.Cond.code x code maxLocals ret :: tables_1) hat d (List.mem_cons_of_mem _ hd)
  have hfit : Fit s := fun {y c} hc i hi => by
    obtain ⟨ha, rfl⟩ := Array.getElem?_eq_some_iff.mp hc
    have q := List.all_eq_true.mp ((Array.all_eq_true_iff_forall_mem.mp hF) _ (Array.getElem_mem ha)) i (List.mem_range.mpr hi)
    simpa [Array.getElem?_eq_getElem hi] using q
  obtain ⟨i0, ei0⟩ := isL_v hg_4
  obtain rfl : w0 = (.long i0) := Option.some.inj ei0
  obtain ⟨i1, ei1⟩ := isL_v hg_6
  obtain rfl : w1 = (.long i1) := Option.some.inj ei1
  obtain ⟨i2, ei2⟩ := isL_v hg_8
  obtain rfl : w2 = (.long i2) := Option.some.inj ei2
  obtain ⟨i3, ei3⟩ := isL_v hg_10
  obtain rfl : w3 = (.long i3) := Option.some.inj ei3
  obtain ⟨i4, ei4⟩ := isL_v hg_11
  obtain rfl : w4 = (.long i4) := Option.some.inj ei4
  obtain ⟨n, o, h1, h2, h3, _, L, rfl, ⟨rfl, N⟩, hq⟩ := rm0 l s _ hw tables_1 i0 i1 i2 i3 i4 s.heap s.heap.size (Nat.le_refl _) p e ha hc hk s m _ below hf ((Spec.applies_iff_loose hf).mp happ).1 ⟨rfl, State.Warmed39.refl s, rfl⟩ trivial
  refine ⟨n, _, h1, h2, h3, hpost _ _ _ _ _ _ ⟨Cond.after_iff.mpr rfl, Cond.after_iff.mpr (eq_i res_at (Term.int_eval (1)) rfl), trivial⟩ ⟨hq.1, hq.2.1, (hq.2.2.sift fun y hy => Or.inr (N y hy)).mono (by decide) (by decide)⟩⟩
theorem main_1_1 : Claimed_1_1 := comes_1 fun _ _ _ _ _ _ h hF => ⟨h.1, hF⟩
theorem main_1_2 : Claimed_1_2 := comes_1 fun _ _ _ _ _ _ h hF => ⟨h.2.1, hF⟩
end Jvm.Pilot.@@N@@
namespace Jvm.Pilot.@@N@@
open Jvm Jvm.ClassFile Sem Op Lib Jvm.Free Jvm.Stand Jvm.Pilot.@@N@@.Jvm.D
/-! MADE BY PROGRAM (witnessworld.py) out of the Statement's table words and the real class files: 10 classes; the members and pool entries that the words name. The judged class is class 1, her method 1. -/
namespace start1
open Jvm.ClassFile
def u (s : String) : CpInfo := .utf8 (stringToUtf16 s)
/-- a pool by its gaps: so many unusable entries, then the entry; so many at the end -/
def gap : Nat → List CpInfo → List CpInfo
  | 0, r => r
  | n + 1, r => .unusable :: gap n r
def poolList (es : List (Nat × CpInfo)) (last : Nat) : List CpInfo := es.foldr (fun e r => gap e.1 (e.2 :: r)) (gap last [])
def pool (es : List (Nat × CpInfo)) (last : Nat) : Array CpInfo := ⟨poolList es last⟩
def fileOf (pool : Array CpInfo) (this : Nat) (attrs : Array Attribute := #[]) (ms : Array MethodInfo := #[]) (fl : Nat := 33) (sup : Nat := 0) (ifs : Array Nat := #[]) (fds : Array FieldInfo := #[]) : ClassFile where
  minorVersion := 0
  majorVersion := 65
  constantPool := pool
  accessFlags := fl
  thisClass := this
  superClass := sup
  interfaces := ifs
  fields := fds
  methods := ms
  attributes := attrs
def plain (name : String) (sup : Option ClassId) : Class where
  name := name
  kind := .ordinary
  loader := none
  accessFlags := 33
  super := sup
  interfaces := #[]
  cf := none
  fields := #[]
  methods := #[]
  instanceTypes := #[]
  staticTypes := #[]
  resolved := #[]
  callSites := []
  init := .initialized
  statics := none
  mirror := none

def pool0 : Array CpInfo := pool [(5, u "<init>"), (0, u "()V"), (1, .class_ 10), (1, u "java/lang/Object")] 113

def k0c0 : Code := { maxStack := 0, maxLocals := 1, code := object_method_1_code, exceptionTable := #[], attributes := #[] }
def k0m0 : Method := { name := "<init>", desc := "()V", sig := { parameters := [], returnType := none }, accessFlags := 1, code := some k0c0 }
/-- java/lang/Object -/
def k0 : Class := { plain "java/lang/Object" none with
  accessFlags := 33
  interfaces := #[]
  cf := some (fileOf pool0 8 #[] #[{ accessFlags := 1, nameIndex := 5, descriptorIndex := 6, attributes := #[] }] 33 0 #[] #[])
  fields := #[]
  methods := #[k0m0]
  instanceTypes := #[]
  staticTypes := #[]
  resolved := Array.replicate 124 none
  statics := none }

def pool1 : Array CpInfo := pool [(2, .class_ 4), (1, u "java/lang/Object"), (0, u "<init>"), (0, u "()V"), (0, .long 4611686018427387903), (3, .long 9223372036854775807), (1, .class_ 14), (0, u "com/example/aliquot/aliquot/Task"), (0, .methodref 13 16), (0, .nameAndType 5 17), (0, u "(JJJJ)V"), (0, .methodref 13 19), (0, .nameAndType 20 21), (0, u "records"), (0, u "()J"), (0, .class_ 23), (0, u "com/example/aliquot/aliquot/TaskRecordsPinLaw"), (2, u "law"), (0, u "(JJJJJ)Z")] 3

def k1m0 : Method := { name := "<init>", desc := "()V", sig := { parameters := [], returnType := none }, accessFlags := 1, code := none }
def k1c1 : Code := { maxStack := 10, maxLocals := 25, code := code, exceptionTable := #[], attributes := #[] }
def k1m1 : Method := { name := "law", desc := "(JJJJJ)Z", sig := { parameters := [.long, .long, .long, .long, .long], returnType := some .boolean }, accessFlags := 9, code := some k1c1 }
/-- com/example/aliquot/aliquot/TaskRecordsPinLaw -/
def k1 : Class := { plain "com/example/aliquot/aliquot/TaskRecordsPinLaw" (some 0) with
  accessFlags := 49
  interfaces := #[]
  cf := some (fileOf pool1 22 #[] #[{ accessFlags := 1, nameIndex := 5, descriptorIndex := 6, attributes := #[] }, { accessFlags := 9, nameIndex := 26, descriptorIndex := 27, attributes := #[] }] 49 2 #[] #[])
  fields := #[]
  methods := #[k1m0, k1m1]
  instanceTypes := #[]
  staticTypes := #[]
  resolved := Array.replicate 31 none
  statics := none }

def pool2 : Array CpInfo := pool [(1, .methodref 2 3), (0, .class_ 4), (0, .nameAndType 5 6), (0, u "java/lang/Object"), (0, u "<init>"), (0, u "()V"), (0, .class_ 8), (0, u "java/lang/Record")] 13

def k2c0 : Code := { maxStack := 1, maxLocals := 1, code := jdk_30_method_1_code, exceptionTable := #[], attributes := #[] }
def k2m0 : Method := { name := "<init>", desc := "()V", sig := { parameters := [], returnType := none }, accessFlags := 4, code := some k2c0 }
/-- java/lang/Record -/
def k2 : Class := { plain "java/lang/Record" (some 0) with
  accessFlags := 1057
  interfaces := #[]
  cf := some (fileOf pool2 7 #[] #[{ accessFlags := 4, nameIndex := 5, descriptorIndex := 6, attributes := #[] }] 1057 2 #[] #[])
  fields := #[]
  methods := #[k2m0]
  instanceTypes := #[]
  staticTypes := #[]
  resolved := Array.replicate 22 none
  statics := none }

def pool3 : Array CpInfo := pool [(1, .methodref 2 3), (0, .class_ 4), (0, .nameAndType 5 6), (0, u "java/lang/Record"), (0, u "<init>"), (0, u "()V"), (0, .fieldref 8 9), (0, .class_ 10), (0, .nameAndType 11 12), (0, u "com/example/aliquot/aliquot/Task"), (0, u "number"), (0, u "J"), (0, .fieldref 8 14), (0, .nameAndType 15 12), (0, u "firstRecord"), (0, .fieldref 8 17), (0, .nameAndType 18 12), (0, u "lastRecord"), (0, .fieldref 8 20), (0, .nameAndType 21 12), (0, u "firstWithoutIdentifier"), (17, u "(JJJJ)V"), (7, u "records"), (0, u "()J")] 35

def k3c0 : Code := { maxStack := 3, maxLocals := 9, code := prog_85_method_1_code, exceptionTable := #[], attributes := #[] }
def k3m0 : Method := { name := "<init>", desc := "(JJJJ)V", sig := { parameters := [.long, .long, .long, .long], returnType := none }, accessFlags := 0, code := some k3c0 }
def k3c1 : Code := { maxStack := 4, maxLocals := 1, code := prog_85_method_4_code, exceptionTable := #[], attributes := #[] }
def k3m1 : Method := { name := "records", desc := "()J", sig := { parameters := [], returnType := some .long }, accessFlags := 0, code := some k3c1 }
/-- com/example/aliquot/aliquot/Task -/
def k3 : Class := { plain "com/example/aliquot/aliquot/Task" (some 2) with
  accessFlags := 48
  interfaces := #[]
  cf := some (fileOf pool3 8 #[] #[{ accessFlags := 0, nameIndex := 5, descriptorIndex := 39, attributes := #[] }, { accessFlags := 0, nameIndex := 47, descriptorIndex := 48, attributes := #[] }] 48 2 #[] #[{ accessFlags := 18, nameIndex := 11, descriptorIndex := 12, attributes := #[] }, { accessFlags := 18, nameIndex := 15, descriptorIndex := 12, attributes := #[] }, { accessFlags := 18, nameIndex := 18, descriptorIndex := 12, attributes := #[] }, { accessFlags := 18, nameIndex := 21, descriptorIndex := 12, attributes := #[] }])
  fields := #[{ name := "number", type := .long, accessFlags := 18, slot := 0, constantValue := 0 }, { name := "firstRecord", type := .long, accessFlags := 18, slot := 1, constantValue := 0 }, { name := "lastRecord", type := .long, accessFlags := 18, slot := 2, constantValue := 0 }, { name := "firstWithoutIdentifier", type := .long, accessFlags := 18, slot := 3, constantValue := 0 }]
  methods := #[k3m0, k3m1]
  instanceTypes := #[.long, .long, .long, .long]
  staticTypes := #[]
  resolved := Array.replicate 84 none
  statics := none }

def pool4 : Array CpInfo := pool [(1, u "java/lang/Cloneable"), (0, .class_ 1), (0, u "java/lang/Object"), (0, .class_ 3)] 3

/-- java/lang/Cloneable -/
def k4 : Class := { plain "java/lang/Cloneable" (some 0) with
  accessFlags := 1537
  interfaces := #[]
  cf := some (fileOf pool4 2 #[] #[] 1537 4 #[] #[])
  fields := #[]
  methods := #[]
  instanceTypes := #[]
  staticTypes := #[]
  resolved := Array.replicate 8 none
  statics := none }

def pool5 : Array CpInfo := pool [(1, u "java/io/Serializable"), (0, .class_ 1), (0, u "java/lang/Object"), (0, .class_ 3)] 3

/-- java/io/Serializable -/
def k5 : Class := { plain "java/io/Serializable" (some 0) with
  accessFlags := 1537
  interfaces := #[]
  cf := some (fileOf pool5 2 #[] #[] 1537 4 #[] #[])
  fields := #[]
  methods := #[]
  instanceTypes := #[]
  staticTypes := #[]
  resolved := Array.replicate 8 none
  statics := none }

/-- the primitive byte -/
def k6 : Class := { plain "byte" none with kind := .primitive 'B', accessFlags := 0x411 }
/-- [B -/
def k7 : Class := { plain "[B" (some 0) with kind := .array 6 .byte, interfaces := #[4, 5], accessFlags := 1041 }

/-- the primitive int -/
def k8 : Class := { plain "int" none with kind := .primitive 'I', accessFlags := 0x411 }
/-- [I -/
def k9 : Class := { plain "[I" (some 0) with kind := .array 8 .int, interfaces := #[4, 5], accessFlags := 1041 }

def heap : Heap := #[]
def classes : Array Class := #[k0, k1, k2, k3, k4, k5, k6, k7, k8, k9]
def interned : List (Array UInt16 × Addr) := []
def slotsUsed : Nat := 0
def theMethod : MethodId := ⟨1, 1⟩
def args0 : Array Value := #[.long 5, .long 5, .long 5, .long 5, .long 5]
def aboutOver (below : List Frame) : State where
  vm := { classes := classes, interned := interned.toArray }
  heap := heap
  slotsUsed := slotsUsed
  threads := #[{ frames := .invoking theMethod args0 :: below }]
def below0 : List Frame := [.native { method := ⟨0, 0⟩, args := #[] }]
def about1 : State := aboutOver below0
def p0 : Program := .bare "" "" ""
def e0 : Env := launch0.env 0 0 0
theorem w_frames : about1.frames = Frame.invoking theMethod args0 :: below0 := rfl
set_option maxRecDepth 65536 in
theorem w_args : argsFit about1.vm theMethod args0 = true := by decide +kernel
set_option maxRecDepth 65536 in
theorem w_heap : heapFits about1 = true := by decide +kernel
set_option maxRecDepth 65536 in
theorem w_runnable : about1.curStatus? = some .runnable := by decide +kernel
set_option maxRecDepth 65536 in
theorem w_alone : about1.alone = true := by decide +kernel
set_option maxRecDepth 65536 in
theorem w_named : about1.methodNamed? x = some theMethod := by decide +kernel
set_option maxRecDepth 65536 in
theorem w_hears : about1.hears theMethod below0 = true := by decide +kernel
set_option maxRecDepth 65536 in
theorem w_ripe : about1.ripe theMethod args0 below0 = true := by decide +kernel
theorem w_running : about1.status = .running := rfl
set_option maxRecDepth 65536 in
theorem w_room : about1.hasRoom e0.platform room_1 = true :=
  launch0.hasRoom_least _ room_1 (by decide +kernel) (by decide +kernel) (by decide +kernel) (by decide +kernel) (by decide +kernel) (by decide +kernel)
theorem allAtoms_all (ts : List Jvm.Cond) (a : Array Jvm.Value) (st : Jvm.State) : (allAtoms ts).before a st = ts.all (fun c => c.before a st) := by
  induction ts with
  | nil => rfl
  | cons c t ih =>
    show (Jvm.Cond.and c (allAtoms t)).before a st = _
    rw [Jvm.Cond.before_and, ih, List.all_cons]
def words1 : List Jvm.Cond := Jvm.Cond.code x code maxLocals ret :: tables_1
/-- a 'code' word, met by the world's own term for the bytes: nothing is compared byte by byte -/
theorem code_word {y : MethodName} {bytes : ByteArray} {mx : Nat} {rt : Option FieldType} {a : Array Value} {s : State} {m : MethodId} {meth : Method} {c : Code} (h1 : s.methodNamed? y = some m) (h2 : s.vm.method? m = some meth) (h3 : meth.code = some c) (h4 : c.code = bytes)
    (h5 : (c.maxLocals == mx && c.exceptionTable.isEmpty && decide (c.maxStack ≤ mostOperands) && decide (meth.sig.returnType = rt) && !meth.locks && decide (parseMethodDescriptor y.desc = some meth.sig)) = true) : (Jvm.Cond.code y bytes mx rt).before a s = true := by
  simp only [Bool.and_eq_true, beq_iff_eq, Bool.not_eq_true', decide_eq_true_eq] at h5
  obtain ⟨⟨⟨⟨⟨g1, g2⟩, g3⟩, g4⟩, g5⟩, g6⟩ := h5
  simp [Cond.before, Cond.holds, Cond.value, h1, h2, h3, h4, g1, g2, g3, g4, g5, g6]
def isCode : Jvm.Cond → Bool
  | .code _ _ _ _ => true
  | _ => false
theorem all_split {L : List Jvm.Cond} {P : Jvm.Cond → Bool} (h1 : L.all (fun c => isCode c || P c) = true) (h2 : ∀ c ∈ L.filter isCode, P c = true) : L.all P = true := by
  refine List.all_eq_true.mpr fun c hc => ?_
  have h := List.all_eq_true.mp h1 c hc
  rcases Bool.eq_false_or_eq_true (isCode c) with hi | hi
  · exact h2 c (List.mem_filter.mpr ⟨hc, hi⟩)
  · simpa [hi] using h
set_option maxRecDepth 65536 in
theorem w_c0 : (Jvm.Cond.code x code maxLocals ret).before args0 about1 = true := code_word (m := ⟨1, 1⟩) (meth := k1m1) (c := k1c1) (by decide +kernel) rfl rfl rfl (by decide +kernel)
set_option maxRecDepth 65536 in
theorem w_c1 : (Jvm.Cond.code ({ cls := "com/example/aliquot/aliquot/Task", name := "<init>", desc := "(JJJJ)V" } : Jvm.MethodName) prog_85_method_1_code (9 : Nat) (Option.none : Option Jvm.ClassFile.FieldType)).before args0 about1 = true := code_word (m := ⟨3, 0⟩) (meth := k3m0) (c := k3c0) (by decide +kernel) rfl rfl rfl (by decide +kernel)
set_option maxRecDepth 65536 in
theorem w_c2 : (Jvm.Cond.code ({ cls := "java/lang/Record", name := "<init>", desc := "()V" } : Jvm.MethodName) jdk_30_method_1_code (1 : Nat) (Option.none : Option Jvm.ClassFile.FieldType)).before args0 about1 = true := code_word (m := ⟨2, 0⟩) (meth := k2m0) (c := k2c0) (by decide +kernel) rfl rfl rfl (by decide +kernel)
set_option maxRecDepth 65536 in
theorem w_c3 : (Jvm.Cond.code ({ cls := "java/lang/Object", name := "<init>", desc := "()V" } : Jvm.MethodName) object_method_1_code (1 : Nat) (Option.none : Option Jvm.ClassFile.FieldType)).before args0 about1 = true := code_word (m := ⟨0, 0⟩) (meth := k0m0) (c := k0c0) (by decide +kernel) rfl rfl rfl (by decide +kernel)
set_option maxRecDepth 65536 in
theorem w_c4 : (Jvm.Cond.code ({ cls := "com/example/aliquot/aliquot/Task", name := "records", desc := "()J" } : Jvm.MethodName) prog_85_method_4_code (1 : Nat) (Option.some Jvm.ClassFile.FieldType.long)).before args0 about1 = true := code_word (m := ⟨3, 1⟩) (meth := k3m1) (c := k3c1) (by decide +kernel) rfl rfl rfl (by decide +kernel)
def codes1 : List Jvm.Cond := [Jvm.Cond.code x code maxLocals ret, Jvm.Cond.code ({ cls := "com/example/aliquot/aliquot/Task", name := "<init>", desc := "(JJJJ)V" } : Jvm.MethodName) prog_85_method_1_code (9 : Nat) (Option.none : Option Jvm.ClassFile.FieldType), Jvm.Cond.code ({ cls := "java/lang/Record", name := "<init>", desc := "()V" } : Jvm.MethodName) jdk_30_method_1_code (1 : Nat) (Option.none : Option Jvm.ClassFile.FieldType), Jvm.Cond.code ({ cls := "java/lang/Object", name := "<init>", desc := "()V" } : Jvm.MethodName) object_method_1_code (1 : Nat) (Option.none : Option Jvm.ClassFile.FieldType), Jvm.Cond.code ({ cls := "com/example/aliquot/aliquot/Task", name := "records", desc := "()J" } : Jvm.MethodName) prog_85_method_4_code (1 : Nat) (Option.some Jvm.ClassFile.FieldType.long)]
set_option maxRecDepth 65536 in
theorem codes_eq : words1.filter isCode = codes1 := rfl
theorem w_codes : ∀ c ∈ words1.filter isCode, c.before args0 about1 = true := by
  rw [codes_eq]
  intro c hc
  simp only [codes1, List.mem_cons, List.not_mem_nil, or_false] at hc
  rcases hc with rfl | rfl | rfl | rfl | rfl
  · exact w_c0
  · exact w_c1
  · exact w_c2
  · exact w_c3
  · exact w_c4
set_option maxRecDepth 65536 in
theorem w_t1 : (words1.take 24).all (fun c => isCode c || c.before args0 about1) = true := by decide +kernel
set_option maxRecDepth 65536 in
theorem w_t2 : (words1.drop 24).all (fun c => isCode c || c.before args0 about1) = true := by decide +kernel
theorem w_tables : (allAtoms (Jvm.Cond.code x code maxLocals ret :: tables_1)).before args0 about1 = true := by
  rw [allAtoms_all]
  show words1.all (fun c => c.before args0 about1) = true
  refine all_split ?_ w_codes
  rw [← List.take_append_drop 24 words1, List.all_append, w_t1, w_t2]
  rfl
set_option maxRecDepth 65536 in
theorem w_case : (Jvm.Cond.and given_1 narrow_1).before args0 about1 = true := by decide +kernel
theorem w_applies : (headSpec (Jvm.Cond.code x code maxLocals ret :: tables_1) room_1).applies x e0.platform about1 = true :=
  (Spec.applies_iff w_frames).mpr ⟨w_running, w_runnable, w_alone, w_named, w_hears, w_ripe, w_room, w_tables⟩
theorem atStart : AtStart classFile x code maxLocals ret World_1 tables_1 room_1 Calls_1 rest_1 Pre_1 launch0 p0 e0 about1 theMethod args0 below0 :=
  ⟨lists_1, trivial, launch0.admits_env _ _ _, launch0.least_env, fairChoices_fair.cas, fairChoices_fair.clock, w_frames, w_args, w_heap, w_applies, trivial, trivial, w_case⟩
end start1
theorem witness_1 : WitnessClaimed_1 := ⟨start1.p0, start1.e0, start1.about1, start1.theMethod, start1.args0, start1.below0, start1.atStart⟩
end Jvm.Pilot.@@N@@
