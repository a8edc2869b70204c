import JvmDerived
import JvmDerived.Pilot.@@N@@Statement
import JvmDerived.Pilot.@@N@@Code
set_option linter.unusedVariables false
set_option linter.unusedSimpArgs false
namespace Jvm.RoadKit
open Sem ClassFile Op Lib Jvm.Stand Jvm.Free Jvm.LawKit
section New
variable {p : Program} {l : Launch} {e : Env} {R : Room} {s : State} {m : MethodId} {args : Array Value} {below : List Frame} {meth : Method} {c : Code} {T : State} {locs : List Loc} {cells slots : Nat}
theorem retI (X : Stand p l e R s m args below meth c T locs cells slots) (hx : p.tables.exec = Jvm.exec) {pc : Nat} {Ls : Array Slot} {z : Int32} {rest : List Value} (hret : meth.sig.returnType = some .int) (hd : decode c.code pc = .ok (.ireturn, 1)) {fs : List Frame}
    (hl : ∀ (f : JFrame) (acts : List Action), f.method = m → f.locked = none → f.entered = [] → (doReturn e (T.setTop f) acts (some (.int z))).1 = T.setFrames fs) : Steps p.tables e below (T.setTop (mkF m pc Ls (.int z :: rest))) (T.setFrames fs) := by
  have hm' : T.vm.method? m = some meth := X.method'
  have hn : narrow .int (.int z) = .int z := rfl
  show Steps p.tables e below (T.setTop { method := m, pc := pc, locals := Ls, stack := _ :: rest, locked := none }) _
  jvm_step X.here [X.here.top, hx, hd, hm', hret, hn]
  first | (intro acts; rw [hl _ acts rfl rfl rfl]) | rw [hl _ _ rfl rfl rfl]
  exact Steps.refl _
end New
end Jvm.RoadKit
namespace Jvm.Pilot.@@N@@
open Jvm Jvm.ClassFile Sem Op Lib Jvm.Free Jvm.Stand Jvm.LawKit Jvm.RoadKit Bundle Jvm.Pilot.@@N@@.Jvm.D
section Own
variable {p : Program} {l : Launch} {e : Env} {R : Room} {s : State} {m : MethodId} {args : Array Value} {below : List Frame} {meth : Method} {c : Code} {T T' : State} {locs : List Loc} {cells slots cc nn : Nat} {f f' : JFrame} {Q : Option Value → Heap → List Loc → Prop} {Z : State} {h h' : Heap} {ws : List Addr}
/-- from this state the body comes to its end, and what it leaves is as Q says -/
def own_Ends (p : Program) (e : Env) (below : List Frame) (s : State) (Q : Option Value → Heap → List Loc → Prop) (cc nn : Nat) (T : State) (f : JFrame) : Prop :=
  ∃ s₂ o, Steps p.tables e below (T.setTop f) s₂ ∧ s₂.status = .running ∧ Ended s₂ below o ∧ ∃ v L, o = .returned v ∧ Q v s₂.heap L ∧ FrameEnd s o s₂ L cc nn
theorem own_go (k : ∀ t, Steps p.tables e below (T'.setTop f') t → Steps p.tables e below (T.setTop f) t) (h : own_Ends p e below s Q cc nn T' f') : own_Ends p e below s Q cc nn T f := by
  obtain ⟨s₂, o, h1, h2⟩ := h
  exact ⟨s₂, o, k _ h1, h2⟩
theorem own_ret (X : Stand p l e R s m args below meth c T locs cells slots) {v : Option Value} (hv : meth.sig.returnType = none → v = none) (hlk : meth.locks = false)
    (st : ∀ fs, (∀ (f : JFrame) (acts : List Action), f.method = m → f.locked = none → f.entered = [] → (doReturn e (T.setTop f) acts v).1 = T.setFrames fs) → Steps p.tables e below (T.setTop f) (T.setFrames fs)) (hQ : Q v T.heap locs) (h1 : cells ≤ cc) (h2 : slots ≤ nn) :
    own_Ends p e below s Q cc nn T f := by
  obtain ⟨fs, hr, hrun, hended, hW, hsame⟩ := X.leave (v := v) hv hlk
  exact ⟨_, _, st fs hr, hrun, hended, _, _, rfl, hQ, ⟨_, rfl⟩, hW, hsame.mono h1 h2⟩
theorem own_retL (X : Stand p l e R s m args below meth c T locs cells slots) (hx : p.tables.exec = Jvm.exec) {pc : Nat} {Ls : Array Slot} {z : Int64} {rest : List Value} (hret : meth.sig.returnType = some .long) (hd : decode c.code pc = .ok (.lreturn, 1)) {fs : List Frame}
    (hl : ∀ (f : JFrame) (acts : List Action), f.method = m → f.locked = none → f.entered = [] → (doReturn e (T.setTop f) acts (some (.long z))).1 = T.setFrames fs) : Steps p.tables e below (T.setTop (mkF m pc Ls (.long z :: rest))) (T.setFrames fs) :=
  retOut X hx hret rfl (Or.inr (Or.inl ⟨rfl, rfl, _, rfl⟩)) hd hl
theorem own_retD (X : Stand p l e R s m args below meth c T locs cells slots) (hx : p.tables.exec = Jvm.exec) {pc : Nat} {Ls : Array Slot} {z : UInt64} {rest : List Value} (hret : meth.sig.returnType = some .double) (hd : decode c.code pc = .ok (.dreturn, 1)) {fs : List Frame}
    (hl : ∀ (f : JFrame) (acts : List Action), f.method = m → f.locked = none → f.entered = [] → (doReturn e (T.setTop f) acts (some (.double z))).1 = T.setFrames fs) : Steps p.tables e below (T.setTop (mkF m pc Ls (.double z :: rest))) (T.setFrames fs) :=
  retOut X hx hret rfl (Or.inr (Or.inr (Or.inl ⟨rfl, rfl, _, rfl⟩))) hd hl
theorem own_retA (X : Stand p l e R s m args below meth c T locs cells slots) (hx : p.tables.exec = Jvm.exec) {pc : Nat} {Ls : Array Slot} {w : Value} {t : FieldType} {rest : List Value} (hret : meth.sig.returnType = some t) (ht : t.isReference = true) (hw : w.isRef = true) (hd : decode c.code pc = .ok (.areturn, 1)) {fs : List Frame}
    (hl : ∀ (f : JFrame) (acts : List Action), f.method = m → f.locked = none → f.entered = [] → (doReturn e (T.setTop f) acts (some w)).1 = T.setFrames fs) : Steps p.tables e below (T.setTop (mkF m pc Ls (w :: rest))) (T.setFrames fs) :=
  retOut X hx hret (by cases t <;> first | rfl | (cases ht; done)) (Or.inr (Or.inr (Or.inr (Or.inr ⟨rfl, ht, hw⟩)))) hd hl
theorem own_lc_lt {a b : Int64} : lcmpW a b < 0 ↔ a < b := by
  simp only [lcmpW, gt_iff_lt]
  by_cases h1 : b < a
  · rw [if_pos h1]; exact ⟨fun q => absurd q (by decide), fun q => absurd q (by rw [Int64.lt_iff_toInt_lt] at *; omega)⟩
  · rw [if_neg h1]
    by_cases h2 : a = b
    · rw [if_pos h2]; exact ⟨fun q => absurd q (by decide), fun q => absurd q (by rw [h2, Int64.lt_iff_toInt_lt]; omega)⟩
    · rw [if_neg h2]; exact ⟨fun _ => by rw [Int64.lt_iff_toInt_lt] at *; rw [← Int64.toInt_inj] at h2; omega, fun _ => by decide⟩
theorem own_lc_eq {a b : Int64} : lcmpW a b = 0 ↔ a = b := by
  simp only [lcmpW, gt_iff_lt]
  by_cases h1 : b < a
  · rw [if_pos h1]; exact ⟨fun q => absurd q (by decide), fun q => absurd h1 (by rw [q, Int64.lt_iff_toInt_lt]; omega)⟩
  · rw [if_neg h1]
    by_cases h2 : a = b
    · rw [if_pos h2]; exact ⟨fun _ => h2, fun _ => rfl⟩
    · rw [if_neg h2]; exact ⟨fun q => absurd q (by decide), fun q => absurd q h2⟩
theorem own_lc_gt {a b : Int64} : 0 < lcmpW a b ↔ b < a := by
  simp only [lcmpW, gt_iff_lt]
  by_cases h1 : b < a
  · rw [if_pos h1]; exact ⟨fun _ => h1, fun _ => by decide⟩
  · rw [if_neg h1]
    by_cases h2 : a = b
    · rw [if_pos h2]; exact ⟨fun q => absurd q (by decide), fun q => absurd q h1⟩
    · rw [if_neg h2]; exact ⟨fun q => absurd q (by decide), fun q => absurd q h1⟩
section Arr
variable {target : State} {g : JFrame} {a : Addr} {kc : ClassId} {ty : FieldType} {z : Int32} {vs : List Value} {dv : Value}
theorem own_alen (X : Stand p l e R s m args below meth c T locs cells slots) (hx : p.tables.exec = Jvm.exec) (hZ : Z.Warmed39 s.vm) (eT : T.heap = h) (V : Arv Z h a kc ty z vs dv) (hg : g.method = m) {rest : List Value} (hs : g.stack = .ref a :: rest) (hd : decode c.code g.pc = .ok (.arraylength, 1))
    (hr : Steps p.tables e below (T.setTop { g with pc := g.pc + 1, stack := .int z :: rest }) target) : Steps p.tables e below (T.setTop g) target := by
  obtain ⟨cl, Ar, -, Sz, Ng, -, -⟩ := V
  exact X.arraylength hx (by rw [eT]; exact Ar.1) (State.isArrayOf_alike hZ.alike Ar.2.1) hg hs hd _ (by rw [len_of Sz Ng]; exact hr)
theorem own_ldI (X : Stand p l e R s m args below meth c T locs cells slots) (hx : p.tables.exec = Jvm.exec) (hZ : Z.Warmed39 s.vm) (eT : T.heap = h) (V : Arv Z h a kc .int z vs dv) {j : Int32} {x : Int32} (hin : ¬ j < 0 ∧ j < z) (hv : vs.getD j.toNatClampNeg dv = .int x) (hg : g.method = m) {rest : List Value} (hs : g.stack = .int j :: .ref a :: rest) (hd : decode c.code g.pc = .ok (.iaload, 1))
    (hr : Steps p.tables e below (T.setTop { g with pc := g.pc + 1, stack := .int x :: rest }) target) : Steps p.tables e below (T.setTop g) target := by
  obtain ⟨cl, Ar, -, Sz, Ng, Hs, Ft⟩ := V
  have hq := inb_of (j := j) Sz hin
  exact X.iaload hx (j := j) (v := .int x) (by rw [eT]; exact Ar.1) (State.isArrayOf_alike hZ.alike Ar.2.1) Ar.2.2 hq (Hs.at hq hv) hg hs hd _ hr
theorem own_ldB (X : Stand p l e R s m args below meth c T locs cells slots) (hx : p.tables.exec = Jvm.exec) (hZ : Z.Warmed39 s.vm) (eT : T.heap = h) (V : Arv Z h a kc .byte z vs dv) {j : Int32} {x : Int32} (hin : ¬ j < 0 ∧ j < z) (hv : vs.getD j.toNatClampNeg dv = .int x) (hg : g.method = m) {rest : List Value} (hs : g.stack = .int j :: .ref a :: rest) (hd : decode c.code g.pc = .ok (.baload, 1))
    (hr : Steps p.tables e below (T.setTop { g with pc := g.pc + 1, stack := .int x :: rest }) target) : Steps p.tables e below (T.setTop g) target := by
  obtain ⟨cl, Ar, -, Sz, Ng, Hs, Ft⟩ := V
  have hq := inb_of (j := j) Sz hin
  exact X.baloadBytes hx (j := j) (v := .int x) (by rw [eT]; exact Ar.1) (State.isArrayOf_alike hZ.alike Ar.2.1) Ar.2.2 hq (Hs.at hq hv) hg hs hd _ hr
theorem own_ldC (X : Stand p l e R s m args below meth c T locs cells slots) (hx : p.tables.exec = Jvm.exec) (hZ : Z.Warmed39 s.vm) (eT : T.heap = h) (V : Arv Z h a kc .char z vs dv) {j : Int32} {x : Int32} (hin : ¬ j < 0 ∧ j < z) (hv : vs.getD j.toNatClampNeg dv = .int x) (hg : g.method = m) {rest : List Value} (hs : g.stack = .int j :: .ref a :: rest) (hd : decode c.code g.pc = .ok (.caload, 1))
    (hr : Steps p.tables e below (T.setTop { g with pc := g.pc + 1, stack := .int x :: rest }) target) : Steps p.tables e below (T.setTop g) target := by
  obtain ⟨cl, Ar, -, Sz, Ng, Hs, Ft⟩ := V
  have hq := inb_of (j := j) Sz hin
  exact X.caload hx (j := j) (v := .int x) (by rw [eT]; exact Ar.1) (State.isArrayOf_alike hZ.alike Ar.2.1) Ar.2.2 hq (Hs.at hq hv) hg hs hd _ hr
theorem own_ldJ (X : Stand p l e R s m args below meth c T locs cells slots) (hx : p.tables.exec = Jvm.exec) (hZ : Z.Warmed39 s.vm) (eT : T.heap = h) (V : Arv Z h a kc .long z vs dv) {j : Int32} {x : Int64} (hin : ¬ j < 0 ∧ j < z) (hv : vs.getD j.toNatClampNeg dv = .long x) (hg : g.method = m) {rest : List Value} (hs : g.stack = .int j :: .ref a :: rest) (hd : decode c.code g.pc = .ok (.laload, 1))
    (hr : Steps p.tables e below (T.setTop { g with pc := g.pc + 1, stack := .long x :: rest }) target) : Steps p.tables e below (T.setTop g) target := by
  obtain ⟨cl, Ar, -, Sz, Ng, Hs, Ft⟩ := V
  have hq := inb_of (j := j) Sz hin
  exact X.laload hx (j := j) (v := .long x) (by rw [eT]; exact Ar.1) (State.isArrayOf_alike hZ.alike Ar.2.1) Ar.2.2 hq (Hs.at hq hv) hg hs hd _ hr
theorem own_ldR (X : Stand p l e R s m args below meth c T locs cells slots) (hx : p.tables.exec = Jvm.exec) (hZ : Z.Warmed39 s.vm) (eT : T.heap = h) (V : Arv Z h a kc ty z vs dv) {j : Int32} {x : Value} (hin : ¬ j < 0 ∧ j < z) (hv : vs.getD j.toNatClampNeg dv = x) (hty : ty.isReference = true) (hg : g.method = m) {rest : List Value} (hs : g.stack = .int j :: .ref a :: rest) (hd : decode c.code g.pc = .ok (.aaload, 1))
    (hr : Steps p.tables e below (T.setTop { g with pc := g.pc + 1, stack := x :: rest }) target) : Steps p.tables e below (T.setTop g) target := by
  obtain ⟨cl, Ar, -, Sz, Ng, Hs, Ft⟩ := V
  have hq := inb_of (j := j) Sz hin
  exact X.aaload hx (j := j) (v := x) (by rw [eT]; exact Ar.1) (State.isArrayOf_alike hZ.alike Ar.2.1) hty Ar.2.2 hq (Hs.at hq hv) hg hs hd _ hr
theorem own_stI (X : Stand p l e R s m args below meth c T locs cells slots) (hx : p.tables.exec = Jvm.exec) (hZ : Z.Warmed39 s.vm) (eT : T.heap = h) (V : Arv Z h a kc .int z vs dv) {j : Int32} {x : Int32} (hin : ¬ j < 0 ∧ j < z) (i : Nat) (hj : j.toNatClampNeg = i) (hi : i < vs.length) (hg : g.method = m) {rest : List Value} (hs : g.stack = .int x :: .int j :: .ref a :: rest) (hd : decode c.code g.pc = .ok (.iastore, 1)) :
    ∃ T' h', Stand p l e R s m args below meth c T' (locs ++ [⟨a, j.toNatClampNeg⟩]) cells slots ∧ T'.heap = h' ∧ Wr h h' a j.toNatClampNeg (.int x) ∧ Arv Z h' a kc .int z (vs.set i (.int x)) dv ∧ ∀ target, Steps p.tables e below (T'.setTop { g with pc := g.pc + 1, stack := rest }) target → Steps p.tables e below (T.setTop g) target := by
  obtain ⟨cl, Ar, q, Sz, Ng, Hs, Ft⟩ := V
  obtain ⟨T', h', X', e', W', st⟩ := stI X hx hZ eT Ar (j := j) (inb_of Sz hin) hg hs hd
  exact ⟨T', h', X', e', W', Arv.set Ar q Sz Ng Hs Ft rfl W' i hj hi, st⟩
theorem own_stB (X : Stand p l e R s m args below meth c T locs cells slots) (hx : p.tables.exec = Jvm.exec) (hZ : Z.Warmed39 s.vm) (eT : T.heap = h) (V : Arv Z h a kc .byte z vs dv) {j : Int32} {x : Int32} (hin : ¬ j < 0 ∧ j < z) (i : Nat) (hj : j.toNatClampNeg = i) (hi : i < vs.length) (hg : g.method = m) {rest : List Value} (hs : g.stack = .int x :: .int j :: .ref a :: rest) (hd : decode c.code g.pc = .ok (.bastore, 1)) :
    ∃ T' h', Stand p l e R s m args below meth c T' (locs ++ [⟨a, j.toNatClampNeg⟩]) cells slots ∧ T'.heap = h' ∧ Wr h h' a j.toNatClampNeg (.int (nar .byte x)) ∧ Arv Z h' a kc .byte z (vs.set i (.int (nar .byte x))) dv ∧ ∀ target, Steps p.tables e below (T'.setTop { g with pc := g.pc + 1, stack := rest }) target → Steps p.tables e below (T.setTop g) target := by
  obtain ⟨cl, Ar, q, Sz, Ng, Hs, Ft⟩ := V
  obtain ⟨T', h', X', e', W', st⟩ := stB X hx hZ eT Ar (j := j) (inb_of Sz hin) hg hs hd
  exact ⟨T', h', X', e', W', Arv.set Ar q Sz Ng Hs Ft (fits_nar_byte _) W' i hj hi, st⟩
theorem own_stC (X : Stand p l e R s m args below meth c T locs cells slots) (hx : p.tables.exec = Jvm.exec) (hZ : Z.Warmed39 s.vm) (eT : T.heap = h) (V : Arv Z h a kc .char z vs dv) {j : Int32} {x : Int32} (hin : ¬ j < 0 ∧ j < z) (i : Nat) (hj : j.toNatClampNeg = i) (hi : i < vs.length) (hg : g.method = m) {rest : List Value} (hs : g.stack = .int x :: .int j :: .ref a :: rest) (hd : decode c.code g.pc = .ok (.castore, 1)) :
    ∃ T' h', Stand p l e R s m args below meth c T' (locs ++ [⟨a, j.toNatClampNeg⟩]) cells slots ∧ T'.heap = h' ∧ Wr h h' a j.toNatClampNeg (.int (nar .char x)) ∧ Arv Z h' a kc .char z (vs.set i (.int (nar .char x))) dv ∧ ∀ target, Steps p.tables e below (T'.setTop { g with pc := g.pc + 1, stack := rest }) target → Steps p.tables e below (T.setTop g) target := by
  obtain ⟨cl, Ar, q, Sz, Ng, Hs, Ft⟩ := V
  obtain ⟨T', h', X', e', W', st⟩ := stC X hx hZ eT Ar (j := j) (inb_of Sz hin) hg hs hd
  exact ⟨T', h', X', e', W', Arv.set Ar q Sz Ng Hs Ft (fits_nar_char _) W' i hj hi, st⟩
theorem own_stJ (X : Stand p l e R s m args below meth c T locs cells slots) (hx : p.tables.exec = Jvm.exec) (hZ : Z.Warmed39 s.vm) (eT : T.heap = h) (V : Arv Z h a kc .long z vs dv) {j : Int32} {x : Int64} (hin : ¬ j < 0 ∧ j < z) (i : Nat) (hj : j.toNatClampNeg = i) (hi : i < vs.length) (hg : g.method = m) {rest : List Value} (hs : g.stack = .long x :: .int j :: .ref a :: rest) (hd : decode c.code g.pc = .ok (.lastore, 1)) :
    ∃ T' h', Stand p l e R s m args below meth c T' (locs ++ [⟨a, j.toNatClampNeg⟩]) cells slots ∧ T'.heap = h' ∧ Wr h h' a j.toNatClampNeg (.long x) ∧ Arv Z h' a kc .long z (vs.set i (.long x)) dv ∧ ∀ target, Steps p.tables e below (T'.setTop { g with pc := g.pc + 1, stack := rest }) target → Steps p.tables e below (T.setTop g) target := by
  obtain ⟨cl, Ar, q, Sz, Ng, Hs, Ft⟩ := V
  obtain ⟨T', h', X', e', W', st⟩ := stJ X hx hZ eT Ar (j := j) (inb_of Sz hin) hg hs hd
  exact ⟨T', h', X', e', W', Arv.set Ar q Sz Ng Hs Ft rfl W' i hj hi, st⟩
theorem own_stZ (X : Stand p l e R s m args below meth c T locs cells slots) (hx : p.tables.exec = Jvm.exec) (hZ : Z.Warmed39 s.vm) (eT : T.heap = h) (V : Arv Z h a kc .boolean z vs dv) {j : Int32} {x : Int32} (hin : ¬ j < 0 ∧ j < z) (i : Nat) (hj : j.toNatClampNeg = i) (hi : i < vs.length) (hg : g.method = m) {rest : List Value} (hs : g.stack = .int x :: .int j :: .ref a :: rest) (hd : decode c.code g.pc = .ok (.bastore, 1)) :
    ∃ T' h', Stand p l e R s m args below meth c T' (locs ++ [⟨a, j.toNatClampNeg⟩]) cells slots ∧ T'.heap = h' ∧ Wr h h' a j.toNatClampNeg (.int (nar .boolean x)) ∧ Arv Z h' a kc .boolean z (vs.set i (.int (nar .boolean x))) dv ∧ ∀ target, Steps p.tables e below (T'.setTop { g with pc := g.pc + 1, stack := rest }) target → Steps p.tables e below (T.setTop g) target := by
  obtain ⟨cl, Ar, q, Sz, Ng, Hs, Ft⟩ := V
  obtain ⟨T', h', X', e', W', st⟩ := stZ X hx hZ eT Ar (j := j) (inb_of Sz hin) hg hs hd
  exact ⟨T', h', X', e', W', Arv.set Ar q Sz Ng Hs Ft (fits_nar_bool _) W' i hj hi, st⟩
theorem own_stR (X : Stand p l e R s m args below meth c T locs cells slots) (hx : p.tables.exec = Jvm.exec) (hZ : Z.Warmed39 s.vm) (eT : T.heap = h) (V : Arv Z h a kc ty z vs dv) {j : Int32} {x : Value} (hin : ¬ j < 0 ∧ j < z) (hty : ty.isReference = true) (hf : fits ty x = true) (F : ∀ cl, Arr Z h a cl ty → cl.cls = kc → Sto Z h a x) (i : Nat) (hj : j.toNatClampNeg = i) (hi : i < vs.length) (hg : g.method = m) {rest : List Value} (hs : g.stack = x :: .int j :: .ref a :: rest) (hd : decode c.code g.pc = .ok (.aastore, 1)) :
    ∃ T' h', Stand p l e R s m args below meth c T' (locs ++ [⟨a, j.toNatClampNeg⟩]) cells slots ∧ T'.heap = h' ∧ Wr h h' a j.toNatClampNeg x ∧ Arv Z h' a kc ty z (vs.set i x) dv ∧ ∀ target, Steps p.tables e below (T'.setTop { g with pc := g.pc + 1, stack := rest }) target → Steps p.tables e below (T.setTop g) target := by
  obtain ⟨cl, Ar, q, Sz, Ng, Hs, Ft⟩ := V
  obtain ⟨T', h', X', e', W', st⟩ := stR X hx hZ eT Ar (j := j) (inb_of Sz hin) hty (F cl Ar q) hg hs hd
  exact ⟨T', h', X', e', W', Arv.set Ar q Sz Ng Hs Ft hf W' i hj hi, st⟩
end Arr
section Dbl
open Jvm.Free.XS
variable {tb : Tables} [Ours tb] {target : State} {g : JFrame}
theorem own_dloadN (h : At T m c below) (hx : tb.exec = Jvm.exec) (hg : g.method = m) {k : Fin 4} {v : UInt64} (hd : decode c.code g.pc = .ok (.dload_n k, 1)) (hl : g.locals[k.val]? = some (.val (.double v))) (hr : Steps tb e below (T.setTop { g with pc := g.pc + 1, stack := .double v :: g.stack }) target) : Steps tb e below (T.setTop g) target := by
  subst hg
  jvm_step h [h.top, hx, hd, hl]
  exact hr
theorem own_dload (h : At T m c below) (hx : tb.exec = Jvm.exec) (hg : g.method = m) {k : Nat} {v : UInt64} (hd : decode c.code g.pc = .ok (.dload k, 2)) (hl : g.locals[k]? = some (.val (.double v))) (hr : Steps tb e below (T.setTop { g with pc := g.pc + 2, stack := .double v :: g.stack }) target) : Steps tb e below (T.setTop g) target := by
  subst hg
  jvm_step h [h.top, hx, hd, hl]
  exact hr
theorem own_i2d (h : At T m c below) (hx : tb.exec = Jvm.exec) (hg : g.method = m) {x : Int32} {rest : List Value} (hd : decode c.code g.pc = .ok (.i2d, 1)) (hs : g.stack = .int x :: rest) (hr : Steps tb e below (T.setTop { g with pc := g.pc + 1, stack := .double (FP.i2d x) :: rest }) target) : Steps tb e below (T.setTop g) target := by
  subst hg
  jvm_step h [h.top, hx, hd, hs]
  exact hr
theorem own_dconst0 (h : At T m c below) (hx : tb.exec = Jvm.exec) (hg : g.method = m) (hd : decode c.code g.pc = .ok (.dconst 0, 1)) (hr : Steps tb e below (T.setTop { g with pc := g.pc + 1, stack := .double FP.dconst0 :: g.stack }) target) : Steps tb e below (T.setTop g) target := by
  subst hg
  jvm_step h [h.top, hx, hd]
  exact hr
theorem own_dconst1 (h : At T m c below) (hx : tb.exec = Jvm.exec) (hg : g.method = m) (hd : decode c.code g.pc = .ok (.dconst 1, 1)) (hr : Steps tb e below (T.setTop { g with pc := g.pc + 1, stack := .double FP.dconst1 :: g.stack }) target) : Steps tb e below (T.setTop g) target := by
  subst hg
  jvm_step h [h.top, hx, hd]
  exact hr
theorem own_pop2D (h : At T m c below) (hx : tb.exec = Jvm.exec) (hg : g.method = m) {v : UInt64} {rest : List Value} (hd : decode c.code g.pc = .ok (.pop2, 1)) (hs : g.stack = .double v :: rest) (hr : Steps tb e below (T.setTop { g with pc := g.pc + 1, stack := rest }) target) : Steps tb e below (T.setTop g) target := by
  subst hg
  jvm_step h [h.top, hx, hd, hs, Value.category]
  exact hr
theorem own_lsw (h : At T m c below) (hx : tb.exec = Jvm.exec) (hg : g.method = m) {dflt : Int} {prs : Array (Int × Int)} {len : Nat} {o : Int} {pc0 pc' : Nat} (hpc : g.pc = pc0) (hd : decode c.code g.pc = .ok (.lookupswitch dflt prs, len)) {i : Int32} {rest : List Value} (hs : g.stack = .int i :: rest) (ho : lookupswitch.offset prs.toList dflt i.toInt = o) (h0 : 0 ≤ (pc0 : Int) + o) (hp : ((pc0 : Int) + o).toNat = pc') (hk : (prs.toList.zip prs.toList.tail).all (fun q => decide (q.1.1 < q.2.1)) = true)
    (hr : Steps tb e below (T.setTop { g with pc := pc', stack := rest }) target) : Steps tb e below (T.setTop g) target := by
  subst hg hpc hp
  jvm_step h [h.top, hx, hd, hs, ho, h0, lookupswitch.wp_chain]
  exact ⟨fun a b a' b' hm => by simpa using List.all_eq_true.mp hk _ hm, hr⟩
theorem own_dcmp (h : At T m c below) (hx : tb.exec = Jvm.exec) (hg : g.method = m) {x y : UInt64} {rest : List Value} {op : CmpOp} {o : Ordering} (hd : decode c.code g.pc = .ok (.dcmp op, 1)) (hs : g.stack = .double y :: .double x :: rest) (hc : FP.dcmp x y = some o) (hr : Steps tb e below (T.setTop { g with pc := g.pc + 1, stack := .int (FP.cmpInt 0 (some o)) :: rest }) target) : Steps tb e below (T.setTop g) target := by
  subst hg
  cases o <;> (jvm_step h [h.top, hx, hd, hs, hc, cmpValue]; exact hr)
end Dbl
theorem own_ne0 {s : State} {args : Array Value} {t : Term} {x : Int32} (ev : t.eval args s none [] s = some (.int x)) (h : (Cond.not (Cond.eq t (.int (0 : Int32)))).before args s = true) : ¬ (x = (0 : Int32)) := fun q => by
  subst q
  have h' := Cond.before_iff.mp h
  have e2 : (Term.int (0 : Int32)).eval args s none [] s = some (.int (0 : Int32)) := rfl
  simp only [Cond.value, ev, e2] at h'
  simp at h'
def own_sel {α : Type} (P : Prop) [Decidable P] (x y : α) : α := if P then x else y
theorem own_sel_t {α : Type} {P : Prop} [Decidable P] {x y : α} (h : P) : own_sel P x y = x := if_pos h
theorem own_sel_f {α : Type} {P : Prop} [Decidable P] {x y : α} (h : ¬ P) : own_sel P x y = y := if_neg h
def own_b2i (P : Prop) [Decidable P] : Int32 := if P then 1 else 0
theorem own_b2i_1 {P : Prop} [Decidable P] (h : P) : own_b2i P = 1 := by rw [own_b2i, if_pos h]
theorem own_b2i_congr {P R : Prop} [Decidable P] [Decidable R] (h : P ↔ R) : own_b2i P = own_b2i R := by
  by_cases q : P
  · rw [own_b2i_1 q, own_b2i_1 (h.mp q)]
  · rw [own_b2i, own_b2i, if_neg q, if_neg (fun r => q (h.mpr r))]
theorem own_b2i_t {P : Prop} [Decidable P] (h : P) : ¬ own_b2i P = 0 := by rw [own_b2i, if_pos h]; decide
theorem own_b2i_f {P : Prop} [Decidable P] (h : ¬ P) : own_b2i P = 0 := by rw [own_b2i, if_neg h]
theorem own_sta_keep {C n d : String} {v : Value} (F : Sta Z h C n d v) (K : Keep h h' ws) (q : ∀ st ∈ ws, ∀ c, h[st]? = some c → c.vm.isStatics = false) : Sta Z h' C n d v := by
  obtain ⟨cf, i, k, f, st, cell, h1, h2, h3, h4, h5, h6, h7⟩ := F
  exact ⟨cf, i, k, f, st, cell, h1, h2, h3, h4, K.2.1 st cell h5 (fun z => by rw [q st z cell h5] at h6; cases h6), h6, h7⟩
theorem own_ws0 : ∀ st ∈ ([] : List Addr), ∀ c, h[st]? = some c → c.vm.isStatics = false := fun _ q => nomatch q
theorem own_wsE {a : Addr} {C : String} (F : Exa Z h a C) (q : ∀ st ∈ ws, ∀ c, h[st]? = some c → c.vm.isStatics = false) : ∀ st ∈ a :: ws, ∀ c, h[st]? = some c → c.vm.isStatics = false := fun st hs c hc => by
  rcases List.mem_cons.mp hs with rfl | hs
  · obtain ⟨cell, k, h1, -, -, h4, -⟩ := F; cases h1.symm.trans hc; exact h4
  · exact q st hs c hc
theorem own_wsF {a : Addr} {C n d : String} {v : Value} (F : Fld Z h a C n d v) (q : ∀ st ∈ ws, ∀ c, h[st]? = some c → c.vm.isStatics = false) : ∀ st ∈ a :: ws, ∀ c, h[st]? = some c → c.vm.isStatics = false := fun st hs c hc => by
  rcases List.mem_cons.mp hs with rfl | hs
  · exact old_plain F c hc
  · exact q st hs c hc
theorem own_wsV {a : Addr} {k : ClassId} {ty : FieldType} {z : Int32} {vs : List Value} {dv : Value} (F : Arv Z h a k ty z vs dv) (q : ∀ st ∈ ws, ∀ c, h[st]? = some c → c.vm.isStatics = false) : ∀ st ∈ a :: ws, ∀ c, h[st]? = some c → c.vm.isStatics = false := fun st hs c hc => by
  rcases List.mem_cons.mp hs with rfl | hs
  · obtain ⟨cl, A, -⟩ := F; cases A.1.symm.trans hc; exact A.plain
  · exact q st hs c hc
theorem own_selp {s : State} {args : Array Value} {C : String} {y : MethodName} (h : (Cond.selects C y y).before args s = true) (hp : s.PrivateAt y) (hi : (Cond.instanceMethod y).before args s = true) (hy : y.cls ≠ "java/lang/invoke/MethodHandle" ∧ y.cls ≠ "java/lang/invoke/VarHandle") : (Cond.selects y.cls y y).before args s = true := by
  obtain ⟨c2, r2, m2, -, -, q3, -, kP, hkP, hkPi⟩ := Cond.selects_spec h
  exact selects_self_of_private (findClass_of_methodNamed q3) hkP hkPi hp hi hy
theorem own_same {s : State} {args : Array Value} {C : String} {x y y2 : MethodName} (h : (Cond.selects C x y2).before args s = true) (hc : y2.cls = y.cls) (hi : (Cond.instanceMethod y).before args s = true) (hy : y.cls ≠ "java/lang/invoke/MethodHandle" ∧ y.cls ≠ "java/lang/invoke/VarHandle") : (Cond.sameMethod y.cls y.cls y.name y.desc).before args s = true := by
  obtain ⟨c2, r2, m2, -, -, q3, -, kP, hkP, hkPi⟩ := Cond.selects_spec h
  obtain ⟨mk, methM, hnamed, -, -, -⟩ := Cond.instanceMethod_spec hi
  have hf : s.methodFound? y.cls y.name y.desc = some mk := State.methodFound?_of_named hnamed hy
  have c1 : s.vm.findClass y2.cls = some m2.cls := findClass_of_methodNamed q3
  rw [hc] at c1
  have hn : s.methodNamed? ⟨y.cls, y.name, y.desc⟩ = some mk := hnamed
  refine Cond.before_iff.mpr ?_
  simp only [Cond.value, c1, hf, hn, hkP]
  simp [hkPi]
theorem own_nf {s : State} {args : Array Value} {C : String} {x y y2 : MethodName} (h : (Cond.selects C x y2).before args s = true) (hc : y2.cls = y.cls) : NotFace s y := fun r0 h0 => by
  obtain ⟨c2, r2, m2, -, -, q3, -, kP, hkP, hkPi⟩ := Cond.selects_spec h
  have c1 : s.vm.findClass y2.cls = some m2.cls := findClass_of_methodNamed q3
  have c0 : s.vm.findClass y.cls = some r0.cls := findClass_of_methodNamed h0
  rw [hc] at c1
  have e : m2.cls = r0.cls := Option.some.inj (c1.symm.trans c0)
  exact ⟨kP, by rw [← e]; exact hkP, hkPi⟩
theorem own_exa_ne {a b : Addr} {C D : String} (A : Exa Z h a C) (B : Exa Z h b D) (hn : C ≠ D) : a ≠ b := fun q => by
  subst q
  obtain ⟨c1, k1, h1, h2, -⟩ := A
  obtain ⟨c2, k2, g1, g2, -⟩ := B
  cases h1.symm.trans g1
  exact ids_ne h2 g2 hn rfl
theorem own_kx (K : Keep h h' []) : Ext h h' := ⟨K.1, fun a c q => K.2.1 a c q nin0⟩
theorem own_ins_keep {a : Addr} {C : String} {bo : Bool} (F : Ins Z h a C bo) (K : Keep h h' ws) : Ins Z h' a C bo := by
  obtain ⟨cell, cT, h1, h2, h3⟩ := F
  obtain ⟨c', q, r1, r2, r3⟩ := K.2.2 a cell h1
  exact ⟨c', cT, q, h2, by rw [r1, r2]; exact h3⟩
end Own
def own_ls0 : List Value := [(.int (97 : Int32)), (.int (108 : Int32)), (.int (108 : Int32)), (.int (111 : Int32)), (.int (119 : Int32)), (.int (101 : Int32)), (.int (100 : Int32)), (.int (32 : Int32)), (.int (97 : Int32)), (.int (110 : Int32)), (.int (121 : Int32)), (.int (32 : Int32)), (.int (110 : Int32)), (.int (117 : Int32)), (.int (109 : Int32)), (.int (98 : Int32)), (.int (101 : Int32)), (.int (114 : Int32))]
theorem ow4 {Z : State} {a0 : Array Value} (hw : ∀ d ∈ tables_1, d.before a0 Z = true) : (Jvm.Cond.classLink "com/example/tally_of_calls/tallyofcalls/Counts" (35 : Nat) "com/example/tally_of_calls/tallyofcalls/Count").before a0 Z = true := hw _ (List.mem_of_getElem? (i := 4) rfl)
theorem ow5 {Z : State} {a0 : Array Value} (hw : ∀ d ∈ tables_1, d.before a0 Z = true) : (Jvm.Cond.instantiable "com/example/tally_of_calls/tallyofcalls/Count" (3 : Nat)).before a0 Z = true := hw _ (List.mem_of_getElem? (i := 5) rfl)
theorem ow6 {Z : State} {a0 : Array Value} (hw : ∀ d ∈ tables_1, d.before a0 Z = true) : (Jvm.Cond.initialized "com/example/tally_of_calls/tallyofcalls/Count").before a0 Z = true := hw _ (List.mem_of_getElem? (i := 6) rfl)
theorem ow23 {Z : State} {a0 : Array Value} (hw : ∀ d ∈ tables_1, d.before a0 Z = true) : (Jvm.Cond.laysFinal "com/example/tally_of_calls/tallyofcalls/Count" "com/example/tally_of_calls/tallyofcalls/Count" "min" "I").before a0 Z = true := hw _ (List.mem_of_getElem? (i := 23) rfl)
theorem ow25 {Z : State} {a0 : Array Value} (hw : ∀ d ∈ tables_1, d.before a0 Z = true) : (Jvm.Cond.laysFinal "com/example/tally_of_calls/tallyofcalls/Count" "com/example/tally_of_calls/tallyofcalls/Count" "max" "J").before a0 Z = true := hw _ (List.mem_of_getElem? (i := 25) rfl)
theorem ow27 {Z : State} {a0 : Array Value} (hw : ∀ d ∈ tables_1, d.before a0 Z = true) : (Jvm.Cond.laysFinal "com/example/tally_of_calls/tallyofcalls/Count" "com/example/tally_of_calls/tallyofcalls/Count" "phrase" "Ljava/lang/String;").before a0 Z = true := hw _ (List.mem_of_getElem? (i := 27) rfl)
theorem ow7 {Z : State} {a0 : Array Value} (hw : ∀ d ∈ tables_1, d.before a0 Z = true) : (Jvm.Cond.constantLong "com/example/tally_of_calls/tallyofcalls/Counts" (46 : Nat) (9223372036854775807 : Int64)).before a0 Z = true := hw _ (List.mem_of_getElem? (i := 7) rfl)
theorem ow8 {Z : State} {a0 : Array Value} (hw : ∀ d ∈ tables_1, d.before a0 Z = true) : (Jvm.Cond.stringLink "com/example/tally_of_calls/tallyofcalls/Counts" (69 : Nat) "allowed any number").before a0 Z = true := hw _ (List.mem_of_getElem? (i := 8) rfl)
def own_lit0 : List Value := [(.int (97 : Int32)), (.int (108 : Int32)), (.int (108 : Int32)), (.int (111 : Int32)), (.int (119 : Int32)), (.int (101 : Int32)), (.int (100 : Int32)), (.int (32 : Int32)), (.int (97 : Int32)), (.int (110 : Int32)), (.int (121 : Int32)), (.int (32 : Int32)), (.int (110 : Int32)), (.int (117 : Int32)), (.int (109 : Int32)), (.int (98 : Int32)), (.int (101 : Int32)), (.int (114 : Int32))]
theorem own_lit0_ok : (∀ c ∈ "allowed any number".toList, c.toNat < 256) ∧ "allowed any number".toList.map (fun c => Value.int (Jvm.Lit.byteI c.toNat.toUInt16)) = own_lit0 := ⟨by decide +kernel, by decide +kernel⟩
theorem own_lit0_len : (18 : Int32).toNatClampNeg = own_lit0.length := by decide +kernel
theorem ow16 {Z : State} {a0 : Array Value} (hw : ∀ d ∈ tables_1, d.before a0 Z = true) : (Jvm.Cond.methodLink "com/example/tally_of_calls/tallyofcalls/Counts" (41 : Nat) ({ cls := "com/example/tally_of_calls/tallyofcalls/Count", name := "<init>", desc := "(IJLjava/lang/String;)V" } : Jvm.MethodName)).before a0 Z = true := hw _ (List.mem_of_getElem? (i := 16) rfl)
theorem ow19 {Z : State} {a0 : Array Value} (hw : ∀ d ∈ tables_1, d.before a0 Z = true) : (Jvm.Cond.methodLink "com/example/tally_of_calls/tallyofcalls/Count" (3 : Nat) ({ cls := "java/lang/Object", name := "<init>", desc := "()V" } : Jvm.MethodName)).before a0 Z = true := hw _ (List.mem_of_getElem? (i := 19) rfl)
theorem ow21 {Z : State} {a0 : Array Value} (hw : ∀ d ∈ tables_1, d.before a0 Z = true) : (Jvm.Cond.code ({ cls := "java/lang/Object", name := "<init>", desc := "()V" } : Jvm.MethodName) object_method_1_code (1 : Nat) (Option.none : Option Jvm.ClassFile.FieldType)).before a0 Z = true := hw _ (List.mem_of_getElem? (i := 21) rfl)
theorem ow20 {Z : State} {a0 : Array Value} (hw : ∀ d ∈ tables_1, d.before a0 Z = true) : (Jvm.Cond.instanceMethod ({ cls := "java/lang/Object", name := "<init>", desc := "()V" } : Jvm.MethodName)).before a0 Z = true := hw _ (List.mem_of_getElem? (i := 20) rfl)
theorem ow22 {Z : State} {a0 : Array Value} (hw : ∀ d ∈ tables_1, d.before a0 Z = true) : (Jvm.Cond.fieldLink "com/example/tally_of_calls/tallyofcalls/Count" (9 : Nat) "com/example/tally_of_calls/tallyofcalls/Count" "min" "I").before a0 Z = true := hw _ (List.mem_of_getElem? (i := 22) rfl)
theorem ow24 {Z : State} {a0 : Array Value} (hw : ∀ d ∈ tables_1, d.before a0 Z = true) : (Jvm.Cond.fieldLink "com/example/tally_of_calls/tallyofcalls/Count" (15 : Nat) "com/example/tally_of_calls/tallyofcalls/Count" "max" "J").before a0 Z = true := hw _ (List.mem_of_getElem? (i := 24) rfl)
theorem ow26 {Z : State} {a0 : Array Value} (hw : ∀ d ∈ tables_1, d.before a0 Z = true) : (Jvm.Cond.fieldLink "com/example/tally_of_calls/tallyofcalls/Count" (19 : Nat) "com/example/tally_of_calls/tallyofcalls/Count" "phrase" "Ljava/lang/String;").before a0 Z = true := hw _ (List.mem_of_getElem? (i := 26) rfl)
abbrev mn0 : MethodName := ⟨"com/example/tally_of_calls/tallyofcalls/Count", "<init>", "(IJLjava/lang/String;)V"⟩
theorem ow18 {Z : State} {a0 : Array Value} (hw : ∀ d ∈ tables_1, d.before a0 Z = true) : (Jvm.Cond.code ({ cls := "com/example/tally_of_calls/tallyofcalls/Count", name := "<init>", desc := "(IJLjava/lang/String;)V" } : Jvm.MethodName) prog_4_method_1_code (5 : Nat) (Option.none : Option Jvm.ClassFile.FieldType)).before a0 Z = true := hw _ (List.mem_of_getElem? (i := 18) rfl)
theorem ow17 {Z : State} {a0 : Array Value} (hw : ∀ d ∈ tables_1, d.before a0 Z = true) : (Jvm.Cond.instanceMethod ({ cls := "com/example/tally_of_calls/tallyofcalls/Count", name := "<init>", desc := "(IJLjava/lang/String;)V" } : Jvm.MethodName)).before a0 Z = true := hw _ (List.mem_of_getElem? (i := 17) rfl)
abbrev mn1 : MethodName := ⟨"com/example/tally_of_calls/tallyofcalls/Counts", "anyNumber", "()Lcom/example/tally_of_calls/tallyofcalls/Count;"⟩
theorem ow31 {Z : State} {a0 : Array Value} (hw : ∀ d ∈ tables_1, d.before a0 Z = true) : (Jvm.Cond.classLink "com/example/tally_of_calls/tallyofcalls/Counts" (13 : Nat) "java/lang/StringBuilder").before a0 Z = true := hw _ (List.mem_of_getElem? (i := 31) rfl)
theorem ow32 {Z : State} {a0 : Array Value} (hw : ∀ d ∈ tables_1, d.before a0 Z = true) : (Jvm.Cond.instantiable "java/lang/StringBuilder" (4 : Nat)).before a0 Z = true := hw _ (List.mem_of_getElem? (i := 32) rfl)
theorem ow33 {Z : State} {a0 : Array Value} (hw : ∀ d ∈ tables_1, d.before a0 Z = true) : (Jvm.Cond.initialized "java/lang/StringBuilder").before a0 Z = true := hw _ (List.mem_of_getElem? (i := 33) rfl)
theorem ow46 {Z : State} {a0 : Array Value} (hw : ∀ d ∈ tables_1, d.before a0 Z = true) : (Jvm.Cond.lays "java/lang/StringBuilder" "java/lang/AbstractStringBuilder" "value" "[B").before a0 Z = true := hw _ (List.mem_of_getElem? (i := 46) rfl)
theorem ow48 {Z : State} {a0 : Array Value} (hw : ∀ d ∈ tables_1, d.before a0 Z = true) : (Jvm.Cond.lays "java/lang/StringBuilder" "java/lang/AbstractStringBuilder" "coder" "B").before a0 Z = true := hw _ (List.mem_of_getElem? (i := 48) rfl)
theorem ow74 {Z : State} {a0 : Array Value} (hw : ∀ d ∈ tables_1, d.before a0 Z = true) : (Jvm.Cond.lays "java/lang/StringBuilder" "java/lang/AbstractStringBuilder" "count" "I").before a0 Z = true := hw _ (List.mem_of_getElem? (i := 74) rfl)
theorem ow34 {Z : State} {a0 : Array Value} (hw : ∀ d ∈ tables_1, d.before a0 Z = true) : (Jvm.Cond.methodLink "com/example/tally_of_calls/tallyofcalls/Counts" (15 : Nat) ({ cls := "java/lang/StringBuilder", name := "<init>", desc := "()V" } : Jvm.MethodName)).before a0 Z = true := hw _ (List.mem_of_getElem? (i := 34) rfl)
theorem ow37 {Z : State} {a0 : Array Value} (hw : ∀ d ∈ tables_1, d.before a0 Z = true) : (Jvm.Cond.methodLink "java/lang/StringBuilder" (1 : Nat) ({ cls := "java/lang/AbstractStringBuilder", name := "<init>", desc := "(I)V" } : Jvm.MethodName)).before a0 Z = true := hw _ (List.mem_of_getElem? (i := 37) rfl)
theorem ow43 {Z : State} {a0 : Array Value} (hw : ∀ d ∈ tables_1, d.before a0 Z = true) : (Jvm.Cond.methodLink "java/lang/AbstractStringBuilder" (3 : Nat) ({ cls := "java/lang/Object", name := "<init>", desc := "()V" } : Jvm.MethodName)).before a0 Z = true := hw _ (List.mem_of_getElem? (i := 43) rfl)
theorem ow44 {Z : State} {a0 : Array Value} (hw : ∀ d ∈ tables_1, d.before a0 Z = true) : (Jvm.Cond.fieldLink "java/lang/AbstractStringBuilder" (18 : Nat) "java/lang/String" "COMPACT_STRINGS" "Z").before a0 Z = true := hw _ (List.mem_of_getElem? (i := 44) rfl)
theorem ow11 {Z : State} {a0 : Array Value} (hw : ∀ d ∈ tables_1, d.before a0 Z = true) : (Jvm.Cond.arrayClass Jvm.ClassFile.FieldType.byte).before a0 Z = true := hw _ (List.mem_of_getElem? (i := 11) rfl)
def own_ls1 : List Value := [(.int (0 : Int32)), (.int (0 : Int32)), (.int (0 : Int32)), (.int (0 : Int32)), (.int (0 : Int32)), (.int (0 : Int32)), (.int (0 : Int32)), (.int (0 : Int32)), (.int (0 : Int32)), (.int (0 : Int32)), (.int (0 : Int32)), (.int (0 : Int32)), (.int (0 : Int32)), (.int (0 : Int32)), (.int (0 : Int32)), (.int (0 : Int32))]
theorem ow45 {Z : State} {a0 : Array Value} (hw : ∀ d ∈ tables_1, d.before a0 Z = true) : (Jvm.Cond.fieldLink "java/lang/AbstractStringBuilder" (15 : Nat) "java/lang/AbstractStringBuilder" "value" "[B").before a0 Z = true := hw _ (List.mem_of_getElem? (i := 45) rfl)
theorem ow47 {Z : State} {a0 : Array Value} (hw : ∀ d ∈ tables_1, d.before a0 Z = true) : (Jvm.Cond.fieldLink "java/lang/AbstractStringBuilder" (22 : Nat) "java/lang/AbstractStringBuilder" "coder" "B").before a0 Z = true := hw _ (List.mem_of_getElem? (i := 47) rfl)
abbrev mn2 : MethodName := ⟨"java/lang/AbstractStringBuilder", "<init>", "(I)V"⟩
theorem ow42 {Z : State} {a0 : Array Value} (hw : ∀ d ∈ tables_1, d.before a0 Z = true) : (Jvm.Cond.code ({ cls := "java/lang/AbstractStringBuilder", name := "<init>", desc := "(I)V" } : Jvm.MethodName) jdk_68_method_2_code (2 : Nat) (Option.none : Option Jvm.ClassFile.FieldType)).before a0 Z = true := hw _ (List.mem_of_getElem? (i := 42) rfl)
theorem ow41 {Z : State} {a0 : Array Value} (hw : ∀ d ∈ tables_1, d.before a0 Z = true) : (Jvm.Cond.initialized "java/lang/AbstractStringBuilder").before a0 Z = true := hw _ (List.mem_of_getElem? (i := 41) rfl)
theorem ow38 {Z : State} {a0 : Array Value} (hw : ∀ d ∈ tables_1, d.before a0 Z = true) : (Jvm.Cond.instanceMethod ({ cls := "java/lang/AbstractStringBuilder", name := "<init>", desc := "(I)V" } : Jvm.MethodName)).before a0 Z = true := hw _ (List.mem_of_getElem? (i := 38) rfl)
abbrev mn3 : MethodName := ⟨"java/lang/StringBuilder", "<init>", "()V"⟩
theorem ow36 {Z : State} {a0 : Array Value} (hw : ∀ d ∈ tables_1, d.before a0 Z = true) : (Jvm.Cond.code ({ cls := "java/lang/StringBuilder", name := "<init>", desc := "()V" } : Jvm.MethodName) jdk_67_method_1_code (1 : Nat) (Option.none : Option Jvm.ClassFile.FieldType)).before a0 Z = true := hw _ (List.mem_of_getElem? (i := 36) rfl)
theorem ow35 {Z : State} {a0 : Array Value} (hw : ∀ d ∈ tables_1, d.before a0 Z = true) : (Jvm.Cond.instanceMethod ({ cls := "java/lang/StringBuilder", name := "<init>", desc := "()V" } : Jvm.MethodName)).before a0 Z = true := hw _ (List.mem_of_getElem? (i := 35) rfl)
theorem ow49 {Z : State} {a0 : Array Value} (hw : ∀ d ∈ tables_1, d.before a0 Z = true) : (Jvm.Cond.stringLink "com/example/tally_of_calls/tallyofcalls/Counts" (48 : Nat) "expected at least ").before a0 Z = true := hw _ (List.mem_of_getElem? (i := 49) rfl)
def own_lit1 : List Value := [(.int (101 : Int32)), (.int (120 : Int32)), (.int (112 : Int32)), (.int (101 : Int32)), (.int (99 : Int32)), (.int (116 : Int32)), (.int (101 : Int32)), (.int (100 : Int32)), (.int (32 : Int32)), (.int (97 : Int32)), (.int (116 : Int32)), (.int (32 : Int32)), (.int (108 : Int32)), (.int (101 : Int32)), (.int (97 : Int32)), (.int (115 : Int32)), (.int (116 : Int32)), (.int (32 : Int32))]
theorem own_lit1_ok : (∀ c ∈ "expected at least ".toList, c.toNat < 256) ∧ "expected at least ".toList.map (fun c => Value.int (Jvm.Lit.byteI c.toNat.toUInt16)) = own_lit1 := ⟨by decide +kernel, by decide +kernel⟩
theorem own_lit1_len : (18 : Int32).toNatClampNeg = own_lit1.length := by decide +kernel
theorem ow50 {Z : State} {a0 : Array Value} (hw : ∀ d ∈ tables_1, d.before a0 Z = true) : (Jvm.Cond.methodLink "com/example/tally_of_calls/tallyofcalls/Counts" (18 : Nat) ({ cls := "java/lang/StringBuilder", name := "append", desc := "(Ljava/lang/String;)Ljava/lang/StringBuilder;" } : Jvm.MethodName)).before a0 Z = true := hw _ (List.mem_of_getElem? (i := 50) rfl)
def own_ls2 : List Value := [(.int (101 : Int32)), (.int (120 : Int32)), (.int (112 : Int32)), (.int (101 : Int32)), (.int (99 : Int32)), (.int (116 : Int32)), (.int (101 : Int32)), (.int (100 : Int32)), (.int (32 : Int32)), (.int (97 : Int32)), (.int (116 : Int32)), (.int (32 : Int32)), (.int (108 : Int32)), (.int (101 : Int32)), (.int (97 : Int32)), (.int (115 : Int32)), (.int (116 : Int32)), (.int (32 : Int32))]
theorem ow55 {Z : State} {a0 : Array Value} (hw : ∀ d ∈ tables_1, d.before a0 Z = true) : (Jvm.Cond.methodLink "java/lang/StringBuilder" (29 : Nat) ({ cls := "java/lang/AbstractStringBuilder", name := "append", desc := "(Ljava/lang/String;)Ljava/lang/AbstractStringBuilder;" } : Jvm.MethodName)).before a0 Z = true := hw _ (List.mem_of_getElem? (i := 55) rfl)
theorem ow60 {Z : State} {a0 : Array Value} (hw : ∀ d ∈ tables_1, d.before a0 Z = true) : (Jvm.Cond.methodLink "java/lang/AbstractStringBuilder" (32 : Nat) ({ cls := "java/lang/String", name := "length", desc := "()I" } : Jvm.MethodName)).before a0 Z = true := hw _ (List.mem_of_getElem? (i := 60) rfl)
theorem ow65 {Z : State} {a0 : Array Value} (hw : ∀ d ∈ tables_1, d.before a0 Z = true) : (Jvm.Cond.fieldLink "java/lang/String" (9 : Nat) "java/lang/String" "value" "[B").before a0 Z = true := hw _ (List.mem_of_getElem? (i := 65) rfl)
theorem ow66 {Z : State} {a0 : Array Value} (hw : ∀ d ∈ tables_1, d.before a0 Z = true) : (Jvm.Cond.methodLink "java/lang/String" (335 : Nat) ({ cls := "java/lang/String", name := "coder", desc := "()B" } : Jvm.MethodName)).before a0 Z = true := hw _ (List.mem_of_getElem? (i := 66) rfl)
theorem ow71 {Z : State} {a0 : Array Value} (hw : ∀ d ∈ tables_1, d.before a0 Z = true) : (Jvm.Cond.fieldLink "java/lang/String" (38 : Nat) "java/lang/String" "COMPACT_STRINGS" "Z").before a0 Z = true := hw _ (List.mem_of_getElem? (i := 71) rfl)
theorem ow72 {Z : State} {a0 : Array Value} (hw : ∀ d ∈ tables_1, d.before a0 Z = true) : (Jvm.Cond.fieldLink "java/lang/String" (15 : Nat) "java/lang/String" "coder" "B").before a0 Z = true := hw _ (List.mem_of_getElem? (i := 72) rfl)
abbrev mn4 : MethodName := ⟨"java/lang/String", "coder", "()B"⟩
theorem ow70 {Z : State} {a0 : Array Value} (hw : ∀ d ∈ tables_1, d.before a0 Z = true) : (Jvm.Cond.code ({ cls := "java/lang/String", name := "coder", desc := "()B" } : Jvm.MethodName) jdk_42_method_152_code (1 : Nat) (Option.some Jvm.ClassFile.FieldType.byte)).before a0 Z = true := hw _ (List.mem_of_getElem? (i := 70) rfl)
theorem ow9 {Z : State} {a0 : Array Value} (hw : ∀ d ∈ tables_1, d.before a0 Z = true) : (Jvm.Cond.initialized "java/lang/String").before a0 Z = true := hw _ (List.mem_of_getElem? (i := 9) rfl)
theorem ow69 {Z : State} {a0 : Array Value} (hw : ∀ d ∈ tables_1, d.before a0 Z = true) : (Jvm.Cond.selects "java/lang/String" ({ cls := "java/lang/String", name := "coder", desc := "()B" } : Jvm.MethodName) ({ cls := "java/lang/String", name := "coder", desc := "()B" } : Jvm.MethodName)).before a0 Z = true := hw _ (List.mem_of_getElem? (i := 69) rfl)
theorem ow67 {Z : State} {a0 : Array Value} (hw : ∀ d ∈ tables_1, d.before a0 Z = true) : (Jvm.Cond.declares ({ cls := "java/lang/String", name := "coder", desc := "()B" } : Jvm.MethodName)).before a0 Z = true := hw _ (List.mem_of_getElem? (i := 67) rfl)
theorem ow68 {Z : State} {a0 : Array Value} (hw : ∀ d ∈ tables_1, d.before a0 Z = true) : (Jvm.Cond.instanceMethod ({ cls := "java/lang/String", name := "coder", desc := "()B" } : Jvm.MethodName)).before a0 Z = true := hw _ (List.mem_of_getElem? (i := 68) rfl)
abbrev mn5 : MethodName := ⟨"java/lang/String", "length", "()I"⟩
theorem ow64 {Z : State} {a0 : Array Value} (hw : ∀ d ∈ tables_1, d.before a0 Z = true) : (Jvm.Cond.code ({ cls := "java/lang/String", name := "length", desc := "()I" } : Jvm.MethodName) jdk_42_method_54_code (1 : Nat) (Option.some Jvm.ClassFile.FieldType.int)).before a0 Z = true := hw _ (List.mem_of_getElem? (i := 64) rfl)
theorem ow63 {Z : State} {a0 : Array Value} (hw : ∀ d ∈ tables_1, d.before a0 Z = true) : (Jvm.Cond.selects "java/lang/String" ({ cls := "java/lang/String", name := "length", desc := "()I" } : Jvm.MethodName) ({ cls := "java/lang/String", name := "length", desc := "()I" } : Jvm.MethodName)).before a0 Z = true := hw _ (List.mem_of_getElem? (i := 63) rfl)
theorem ow61 {Z : State} {a0 : Array Value} (hw : ∀ d ∈ tables_1, d.before a0 Z = true) : (Jvm.Cond.declares ({ cls := "java/lang/String", name := "length", desc := "()I" } : Jvm.MethodName)).before a0 Z = true := hw _ (List.mem_of_getElem? (i := 61) rfl)
theorem ow62 {Z : State} {a0 : Array Value} (hw : ∀ d ∈ tables_1, d.before a0 Z = true) : (Jvm.Cond.instanceMethod ({ cls := "java/lang/String", name := "length", desc := "()I" } : Jvm.MethodName)).before a0 Z = true := hw _ (List.mem_of_getElem? (i := 62) rfl)
theorem ow73 {Z : State} {a0 : Array Value} (hw : ∀ d ∈ tables_1, d.before a0 Z = true) : (Jvm.Cond.fieldLink "java/lang/AbstractStringBuilder" (79 : Nat) "java/lang/AbstractStringBuilder" "count" "I").before a0 Z = true := hw _ (List.mem_of_getElem? (i := 73) rfl)
theorem ow75 {Z : State} {a0 : Array Value} (hw : ∀ d ∈ tables_1, d.before a0 Z = true) : (Jvm.Cond.methodLink "java/lang/AbstractStringBuilder" (100 : Nat) ({ cls := "java/lang/AbstractStringBuilder", name := "ensureCapacityInternal", desc := "(I)V" } : Jvm.MethodName)).before a0 Z = true := hw _ (List.mem_of_getElem? (i := 75) rfl)
theorem ow80 {Z : State} {a0 : Array Value} (hw : ∀ d ∈ tables_1, d.before a0 Z = true) : (Jvm.Cond.methodLink "java/lang/AbstractStringBuilder" (104 : Nat) ({ cls := "java/lang/AbstractStringBuilder", name := "newCapacity", desc := "(I)I" } : Jvm.MethodName)).before a0 Z = true := hw _ (List.mem_of_getElem? (i := 80) rfl)
theorem ow85 {Z : State} {a0 : Array Value} (hw : ∀ d ∈ tables_1, d.before a0 Z = true) : (Jvm.Cond.methodLink "java/lang/AbstractStringBuilder" (114 : Nat) ({ cls := "jdk/internal/util/ArraysSupport", name := "newLength", desc := "(III)I" } : Jvm.MethodName)).before a0 Z = true := hw _ (List.mem_of_getElem? (i := 85) rfl)
theorem ow89 {Z : State} {a0 : Array Value} (hw : ∀ d ∈ tables_1, d.before a0 Z = true) : (Jvm.Cond.methodLink "jdk/internal/util/ArraysSupport" (194 : Nat) ({ cls := "java/lang/Math", name := "max", desc := "(II)I" } : Jvm.MethodName)).before a0 Z = true := hw _ (List.mem_of_getElem? (i := 89) rfl)
abbrev mn6 : MethodName := ⟨"java/lang/Math", "max", "(II)I"⟩
theorem ow92 {Z : State} {a0 : Array Value} (hw : ∀ d ∈ tables_1, d.before a0 Z = true) : (Jvm.Cond.code ({ cls := "java/lang/Math", name := "max", desc := "(II)I" } : Jvm.MethodName) jdk_29_method_65_code (2 : Nat) (Option.some Jvm.ClassFile.FieldType.int)).before a0 Z = true := hw _ (List.mem_of_getElem? (i := 92) rfl)
theorem ow91 {Z : State} {a0 : Array Value} (hw : ∀ d ∈ tables_1, d.before a0 Z = true) : (Jvm.Cond.initialized "java/lang/Math").before a0 Z = true := hw _ (List.mem_of_getElem? (i := 91) rfl)
theorem ow90 {Z : State} {a0 : Array Value} (hw : ∀ d ∈ tables_1, d.before a0 Z = true) : (Jvm.Cond.static ({ cls := "java/lang/Math", name := "max", desc := "(II)I" } : Jvm.MethodName)).before a0 Z = true := hw _ (List.mem_of_getElem? (i := 90) rfl)
theorem ow93 {Z : State} {a0 : Array Value} (hw : ∀ d ∈ tables_1, d.before a0 Z = true) : (Jvm.Cond.constant "jdk/internal/util/ArraysSupport" (200 : Nat) (2147483639 : Int32)).before a0 Z = true := hw _ (List.mem_of_getElem? (i := 93) rfl)
abbrev mn7 : MethodName := ⟨"jdk/internal/util/ArraysSupport", "newLength", "(III)I"⟩
theorem ow88 {Z : State} {a0 : Array Value} (hw : ∀ d ∈ tables_1, d.before a0 Z = true) : (Jvm.Cond.code ({ cls := "jdk/internal/util/ArraysSupport", name := "newLength", desc := "(III)I" } : Jvm.MethodName) jdk_48_method_27_code (4 : Nat) (Option.some Jvm.ClassFile.FieldType.int)).before a0 Z = true := hw _ (List.mem_of_getElem? (i := 88) rfl)
theorem ow87 {Z : State} {a0 : Array Value} (hw : ∀ d ∈ tables_1, d.before a0 Z = true) : (Jvm.Cond.initialized "jdk/internal/util/ArraysSupport").before a0 Z = true := hw _ (List.mem_of_getElem? (i := 87) rfl)
theorem ow86 {Z : State} {a0 : Array Value} (hw : ∀ d ∈ tables_1, d.before a0 Z = true) : (Jvm.Cond.static ({ cls := "jdk/internal/util/ArraysSupport", name := "newLength", desc := "(III)I" } : Jvm.MethodName)).before a0 Z = true := hw _ (List.mem_of_getElem? (i := 86) rfl)
theorem ow94 {Z : State} {a0 : Array Value} (hw : ∀ d ∈ tables_1, d.before a0 Z = true) : (Jvm.Cond.constant "java/lang/AbstractStringBuilder" (39 : Nat) (2147483647 : Int32)).before a0 Z = true := hw _ (List.mem_of_getElem? (i := 94) rfl)
abbrev mn8 : MethodName := ⟨"java/lang/AbstractStringBuilder", "newCapacity", "(I)I"⟩
theorem ow84 {Z : State} {a0 : Array Value} (hw : ∀ d ∈ tables_1, d.before a0 Z = true) : (Jvm.Cond.code ({ cls := "java/lang/AbstractStringBuilder", name := "newCapacity", desc := "(I)I" } : Jvm.MethodName) jdk_68_method_10_code (6 : Nat) (Option.some Jvm.ClassFile.FieldType.int)).before a0 Z = true := hw _ (List.mem_of_getElem? (i := 84) rfl)
theorem ow81 {Z : State} {a0 : Array Value} (hw : ∀ d ∈ tables_1, d.before a0 Z = true) : (Jvm.Cond.instanceMethod ({ cls := "java/lang/AbstractStringBuilder", name := "newCapacity", desc := "(I)I" } : Jvm.MethodName)).before a0 Z = true := hw _ (List.mem_of_getElem? (i := 81) rfl)
theorem ow83 {Z : State} {a0 : Array Value} (hw : ∀ d ∈ tables_1, d.before a0 Z = true) : (Jvm.Cond.selects "java/lang/StringBuilder" ({ cls := "java/lang/AbstractStringBuilder", name := "newCapacity", desc := "(I)I" } : Jvm.MethodName) ({ cls := "java/lang/AbstractStringBuilder", name := "newCapacity", desc := "(I)I" } : Jvm.MethodName)).before a0 Z = true := hw _ (List.mem_of_getElem? (i := 83) rfl)
theorem ow82 {Z : State} {a0 : Array Value} (hw : ∀ d ∈ tables_1, d.before a0 Z = true) : (Jvm.Cond.privateMethod ({ cls := "java/lang/AbstractStringBuilder", name := "newCapacity", desc := "(I)I" } : Jvm.MethodName)).before a0 Z = true := hw _ (List.mem_of_getElem? (i := 82) rfl)
theorem ow95 {Z : State} {a0 : Array Value} (hw : ∀ d ∈ tables_1, d.before a0 Z = true) : (Jvm.Cond.methodLink "java/lang/AbstractStringBuilder" (108 : Nat) ({ cls := "java/util/Arrays", name := "copyOf", desc := "([BI)[B" } : Jvm.MethodName)).before a0 Z = true := hw _ (List.mem_of_getElem? (i := 95) rfl)
def own_ls3 : List Value := [(.int (0 : Int32)), (.int (0 : Int32)), (.int (0 : Int32)), (.int (0 : Int32)), (.int (0 : Int32)), (.int (0 : Int32)), (.int (0 : Int32)), (.int (0 : Int32)), (.int (0 : Int32)), (.int (0 : Int32)), (.int (0 : Int32)), (.int (0 : Int32)), (.int (0 : Int32)), (.int (0 : Int32)), (.int (0 : Int32)), (.int (0 : Int32)), (.int (0 : Int32)), (.int (0 : Int32)), (.int (0 : Int32)), (.int (0 : Int32)), (.int (0 : Int32)), (.int (0 : Int32)), (.int (0 : Int32)), (.int (0 : Int32)), (.int (0 : Int32)), (.int (0 : Int32)), (.int (0 : Int32)), (.int (0 : Int32)), (.int (0 : Int32)), (.int (0 : Int32)), (.int (0 : Int32)), (.int (0 : Int32)), (.int (0 : Int32)), (.int (0 : Int32))]
theorem ow99 {Z : State} {a0 : Array Value} (hw : ∀ d ∈ tables_1, d.before a0 Z = true) : (Jvm.Cond.methodLink "java/util/Arrays" (304 : Nat) ({ cls := "java/lang/Math", name := "min", desc := "(II)I" } : Jvm.MethodName)).before a0 Z = true := hw _ (List.mem_of_getElem? (i := 99) rfl)
abbrev mn9 : MethodName := ⟨"java/lang/Math", "min", "(II)I"⟩
theorem ow101 {Z : State} {a0 : Array Value} (hw : ∀ d ∈ tables_1, d.before a0 Z = true) : (Jvm.Cond.code ({ cls := "java/lang/Math", name := "min", desc := "(II)I" } : Jvm.MethodName) jdk_29_method_69_code (2 : Nat) (Option.some Jvm.ClassFile.FieldType.int)).before a0 Z = true := hw _ (List.mem_of_getElem? (i := 101) rfl)
theorem ow100 {Z : State} {a0 : Array Value} (hw : ∀ d ∈ tables_1, d.before a0 Z = true) : (Jvm.Cond.static ({ cls := "java/lang/Math", name := "min", desc := "(II)I" } : Jvm.MethodName)).before a0 Z = true := hw _ (List.mem_of_getElem? (i := 100) rfl)
theorem ow102 {Z : State} {a0 : Array Value} (hw : ∀ d ∈ tables_1, d.before a0 Z = true) : (Jvm.Cond.methodLink "java/util/Arrays" (150 : Nat) ({ cls := "java/lang/System", name := "arraycopy", desc := "(Ljava/lang/Object;ILjava/lang/Object;II)V" } : Jvm.MethodName)).before a0 Z = true := hw _ (List.mem_of_getElem? (i := 102) rfl)
theorem ow105 {Z : State} {a0 : Array Value} (hw : ∀ d ∈ tables_1, d.before a0 Z = true) : (Jvm.Cond.native ({ cls := "java/lang/System", name := "arraycopy", desc := "(Ljava/lang/Object;ILjava/lang/Object;II)V" } : Jvm.MethodName)).before a0 Z = true := hw _ (List.mem_of_getElem? (i := 105) rfl)
theorem ow103 {Z : State} {a0 : Array Value} (hw : ∀ d ∈ tables_1, d.before a0 Z = true) : (Jvm.Cond.static ({ cls := "java/lang/System", name := "arraycopy", desc := "(Ljava/lang/Object;ILjava/lang/Object;II)V" } : Jvm.MethodName)).before a0 Z = true := hw _ (List.mem_of_getElem? (i := 103) rfl)
theorem ow104 {Z : State} {a0 : Array Value} (hw : ∀ d ∈ tables_1, d.before a0 Z = true) : (Jvm.Cond.initialized "java/lang/System").before a0 Z = true := hw _ (List.mem_of_getElem? (i := 104) rfl)
abbrev mn10 : MethodName := ⟨"java/util/Arrays", "copyOf", "([BI)[B"⟩
theorem ow98 {Z : State} {a0 : Array Value} (hw : ∀ d ∈ tables_1, d.before a0 Z = true) : (Jvm.Cond.code ({ cls := "java/util/Arrays", name := "copyOf", desc := "([BI)[B" } : Jvm.MethodName) jdk_65_method_121_code (3 : Nat) (Option.some (Jvm.ClassFile.FieldType.array Jvm.ClassFile.FieldType.byte))).before a0 Z = true := hw _ (List.mem_of_getElem? (i := 98) rfl)
theorem ow97 {Z : State} {a0 : Array Value} (hw : ∀ d ∈ tables_1, d.before a0 Z = true) : (Jvm.Cond.initialized "java/util/Arrays").before a0 Z = true := hw _ (List.mem_of_getElem? (i := 97) rfl)
theorem ow96 {Z : State} {a0 : Array Value} (hw : ∀ d ∈ tables_1, d.before a0 Z = true) : (Jvm.Cond.static ({ cls := "java/util/Arrays", name := "copyOf", desc := "([BI)[B" } : Jvm.MethodName)).before a0 Z = true := hw _ (List.mem_of_getElem? (i := 96) rfl)
abbrev mn11 : MethodName := ⟨"java/lang/AbstractStringBuilder", "ensureCapacityInternal", "(I)V"⟩
theorem ow79 {Z : State} {a0 : Array Value} (hw : ∀ d ∈ tables_1, d.before a0 Z = true) : (Jvm.Cond.code ({ cls := "java/lang/AbstractStringBuilder", name := "ensureCapacityInternal", desc := "(I)V" } : Jvm.MethodName) jdk_68_method_9_code (3 : Nat) (Option.none : Option Jvm.ClassFile.FieldType)).before a0 Z = true := hw _ (List.mem_of_getElem? (i := 79) rfl)
theorem ow76 {Z : State} {a0 : Array Value} (hw : ∀ d ∈ tables_1, d.before a0 Z = true) : (Jvm.Cond.instanceMethod ({ cls := "java/lang/AbstractStringBuilder", name := "ensureCapacityInternal", desc := "(I)V" } : Jvm.MethodName)).before a0 Z = true := hw _ (List.mem_of_getElem? (i := 76) rfl)
theorem ow78 {Z : State} {a0 : Array Value} (hw : ∀ d ∈ tables_1, d.before a0 Z = true) : (Jvm.Cond.selects "java/lang/StringBuilder" ({ cls := "java/lang/AbstractStringBuilder", name := "ensureCapacityInternal", desc := "(I)V" } : Jvm.MethodName) ({ cls := "java/lang/AbstractStringBuilder", name := "ensureCapacityInternal", desc := "(I)V" } : Jvm.MethodName)).before a0 Z = true := hw _ (List.mem_of_getElem? (i := 78) rfl)
theorem ow77 {Z : State} {a0 : Array Value} (hw : ∀ d ∈ tables_1, d.before a0 Z = true) : (Jvm.Cond.privateMethod ({ cls := "java/lang/AbstractStringBuilder", name := "ensureCapacityInternal", desc := "(I)V" } : Jvm.MethodName)).before a0 Z = true := hw _ (List.mem_of_getElem? (i := 77) rfl)
theorem ow106 {Z : State} {a0 : Array Value} (hw : ∀ d ∈ tables_1, d.before a0 Z = true) : (Jvm.Cond.methodLink "java/lang/AbstractStringBuilder" (208 : Nat) ({ cls := "java/lang/AbstractStringBuilder", name := "putStringAt", desc := "(ILjava/lang/String;)V" } : Jvm.MethodName)).before a0 Z = true := hw _ (List.mem_of_getElem? (i := 106) rfl)
theorem ow111 {Z : State} {a0 : Array Value} (hw : ∀ d ∈ tables_1, d.before a0 Z = true) : (Jvm.Cond.methodLink "java/lang/AbstractStringBuilder" (397 : Nat) ({ cls := "java/lang/AbstractStringBuilder", name := "inflateIfNeededFor", desc := "(Ljava/lang/String;)V" } : Jvm.MethodName)).before a0 Z = true := hw _ (List.mem_of_getElem? (i := 111) rfl)
theorem ow116 {Z : State} {a0 : Array Value} (hw : ∀ d ∈ tables_1, d.before a0 Z = true) : (Jvm.Cond.methodLink "java/lang/AbstractStringBuilder" (40 : Nat) ({ cls := "java/lang/String", name := "coder", desc := "()B" } : Jvm.MethodName)).before a0 Z = true := hw _ (List.mem_of_getElem? (i := 116) rfl)
abbrev mn12 : MethodName := ⟨"java/lang/AbstractStringBuilder", "inflateIfNeededFor", "(Ljava/lang/String;)V"⟩
theorem ow115 {Z : State} {a0 : Array Value} (hw : ∀ d ∈ tables_1, d.before a0 Z = true) : (Jvm.Cond.code ({ cls := "java/lang/AbstractStringBuilder", name := "inflateIfNeededFor", desc := "(Ljava/lang/String;)V" } : Jvm.MethodName) jdk_68_method_71_code (2 : Nat) (Option.none : Option Jvm.ClassFile.FieldType)).before a0 Z = true := hw _ (List.mem_of_getElem? (i := 115) rfl)
theorem ow112 {Z : State} {a0 : Array Value} (hw : ∀ d ∈ tables_1, d.before a0 Z = true) : (Jvm.Cond.instanceMethod ({ cls := "java/lang/AbstractStringBuilder", name := "inflateIfNeededFor", desc := "(Ljava/lang/String;)V" } : Jvm.MethodName)).before a0 Z = true := hw _ (List.mem_of_getElem? (i := 112) rfl)
theorem ow114 {Z : State} {a0 : Array Value} (hw : ∀ d ∈ tables_1, d.before a0 Z = true) : (Jvm.Cond.selects "java/lang/StringBuilder" ({ cls := "java/lang/AbstractStringBuilder", name := "inflateIfNeededFor", desc := "(Ljava/lang/String;)V" } : Jvm.MethodName) ({ cls := "java/lang/AbstractStringBuilder", name := "inflateIfNeededFor", desc := "(Ljava/lang/String;)V" } : Jvm.MethodName)).before a0 Z = true := hw _ (List.mem_of_getElem? (i := 114) rfl)
theorem ow113 {Z : State} {a0 : Array Value} (hw : ∀ d ∈ tables_1, d.before a0 Z = true) : (Jvm.Cond.privateMethod ({ cls := "java/lang/AbstractStringBuilder", name := "inflateIfNeededFor", desc := "(Ljava/lang/String;)V" } : Jvm.MethodName)).before a0 Z = true := hw _ (List.mem_of_getElem? (i := 113) rfl)
theorem ow117 {Z : State} {a0 : Array Value} (hw : ∀ d ∈ tables_1, d.before a0 Z = true) : (Jvm.Cond.methodLink "java/lang/AbstractStringBuilder" (399 : Nat) ({ cls := "java/lang/String", name := "getBytes", desc := "([BIB)V" } : Jvm.MethodName)).before a0 Z = true := hw _ (List.mem_of_getElem? (i := 117) rfl)
theorem ow122 {Z : State} {a0 : Array Value} (hw : ∀ d ∈ tables_1, d.before a0 Z = true) : (Jvm.Cond.methodLink "java/lang/String" (212 : Nat) ({ cls := "java/lang/System", name := "arraycopy", desc := "(Ljava/lang/Object;ILjava/lang/Object;II)V" } : Jvm.MethodName)).before a0 Z = true := hw _ (List.mem_of_getElem? (i := 122) rfl)
def own_ls4 : List Value := [(.int (101 : Int32)), (.int (120 : Int32)), (.int (112 : Int32)), (.int (101 : Int32)), (.int (99 : Int32)), (.int (116 : Int32)), (.int (101 : Int32)), (.int (100 : Int32)), (.int (32 : Int32)), (.int (97 : Int32)), (.int (116 : Int32)), (.int (32 : Int32)), (.int (108 : Int32)), (.int (101 : Int32)), (.int (97 : Int32)), (.int (115 : Int32)), (.int (116 : Int32)), (.int (32 : Int32)), (.int (0 : Int32)), (.int (0 : Int32)), (.int (0 : Int32)), (.int (0 : Int32)), (.int (0 : Int32)), (.int (0 : Int32)), (.int (0 : Int32)), (.int (0 : Int32)), (.int (0 : Int32)), (.int (0 : Int32)), (.int (0 : Int32)), (.int (0 : Int32)), (.int (0 : Int32)), (.int (0 : Int32)), (.int (0 : Int32)), (.int (0 : Int32))]
abbrev mn13 : MethodName := ⟨"java/lang/String", "getBytes", "([BIB)V"⟩
theorem ow121 {Z : State} {a0 : Array Value} (hw : ∀ d ∈ tables_1, d.before a0 Z = true) : (Jvm.Cond.code ({ cls := "java/lang/String", name := "getBytes", desc := "([BIB)V" } : Jvm.MethodName) jdk_42_method_147_code (4 : Nat) (Option.none : Option Jvm.ClassFile.FieldType)).before a0 Z = true := hw _ (List.mem_of_getElem? (i := 121) rfl)
theorem ow120 {Z : State} {a0 : Array Value} (hw : ∀ d ∈ tables_1, d.before a0 Z = true) : (Jvm.Cond.selects "java/lang/String" ({ cls := "java/lang/String", name := "getBytes", desc := "([BIB)V" } : Jvm.MethodName) ({ cls := "java/lang/String", name := "getBytes", desc := "([BIB)V" } : Jvm.MethodName)).before a0 Z = true := hw _ (List.mem_of_getElem? (i := 120) rfl)
theorem ow118 {Z : State} {a0 : Array Value} (hw : ∀ d ∈ tables_1, d.before a0 Z = true) : (Jvm.Cond.declares ({ cls := "java/lang/String", name := "getBytes", desc := "([BIB)V" } : Jvm.MethodName)).before a0 Z = true := hw _ (List.mem_of_getElem? (i := 118) rfl)
theorem ow119 {Z : State} {a0 : Array Value} (hw : ∀ d ∈ tables_1, d.before a0 Z = true) : (Jvm.Cond.instanceMethod ({ cls := "java/lang/String", name := "getBytes", desc := "([BIB)V" } : Jvm.MethodName)).before a0 Z = true := hw _ (List.mem_of_getElem? (i := 119) rfl)
abbrev mn14 : MethodName := ⟨"java/lang/AbstractStringBuilder", "putStringAt", "(ILjava/lang/String;)V"⟩
theorem ow110 {Z : State} {a0 : Array Value} (hw : ∀ d ∈ tables_1, d.before a0 Z = true) : (Jvm.Cond.code ({ cls := "java/lang/AbstractStringBuilder", name := "putStringAt", desc := "(ILjava/lang/String;)V" } : Jvm.MethodName) jdk_68_method_73_code (3 : Nat) (Option.none : Option Jvm.ClassFile.FieldType)).before a0 Z = true := hw _ (List.mem_of_getElem? (i := 110) rfl)
theorem ow107 {Z : State} {a0 : Array Value} (hw : ∀ d ∈ tables_1, d.before a0 Z = true) : (Jvm.Cond.instanceMethod ({ cls := "java/lang/AbstractStringBuilder", name := "putStringAt", desc := "(ILjava/lang/String;)V" } : Jvm.MethodName)).before a0 Z = true := hw _ (List.mem_of_getElem? (i := 107) rfl)
theorem ow109 {Z : State} {a0 : Array Value} (hw : ∀ d ∈ tables_1, d.before a0 Z = true) : (Jvm.Cond.selects "java/lang/StringBuilder" ({ cls := "java/lang/AbstractStringBuilder", name := "putStringAt", desc := "(ILjava/lang/String;)V" } : Jvm.MethodName) ({ cls := "java/lang/AbstractStringBuilder", name := "putStringAt", desc := "(ILjava/lang/String;)V" } : Jvm.MethodName)).before a0 Z = true := hw _ (List.mem_of_getElem? (i := 109) rfl)
theorem ow108 {Z : State} {a0 : Array Value} (hw : ∀ d ∈ tables_1, d.before a0 Z = true) : (Jvm.Cond.privateMethod ({ cls := "java/lang/AbstractStringBuilder", name := "putStringAt", desc := "(ILjava/lang/String;)V" } : Jvm.MethodName)).before a0 Z = true := hw _ (List.mem_of_getElem? (i := 108) rfl)
abbrev mn15 : MethodName := ⟨"java/lang/AbstractStringBuilder", "append", "(Ljava/lang/String;)Ljava/lang/AbstractStringBuilder;"⟩
theorem ow59 {Z : State} {a0 : Array Value} (hw : ∀ d ∈ tables_1, d.before a0 Z = true) : (Jvm.Cond.code ({ cls := "java/lang/AbstractStringBuilder", name := "append", desc := "(Ljava/lang/String;)Ljava/lang/AbstractStringBuilder;" } : Jvm.MethodName) jdk_68_method_22_code (3 : Nat) (Option.some (Jvm.ClassFile.FieldType.object "java/lang/AbstractStringBuilder"))).before a0 Z = true := hw _ (List.mem_of_getElem? (i := 59) rfl)
theorem ow56 {Z : State} {a0 : Array Value} (hw : ∀ d ∈ tables_1, d.before a0 Z = true) : (Jvm.Cond.instanceMethod ({ cls := "java/lang/AbstractStringBuilder", name := "append", desc := "(Ljava/lang/String;)Ljava/lang/AbstractStringBuilder;" } : Jvm.MethodName)).before a0 Z = true := hw _ (List.mem_of_getElem? (i := 56) rfl)
theorem ow57 {Z : State} {a0 : Array Value} (hw : ∀ d ∈ tables_1, d.before a0 Z = true) : (Jvm.Cond.superclass "java/lang/StringBuilder" "java/lang/AbstractStringBuilder").before a0 Z = true := hw _ (List.mem_of_getElem? (i := 57) rfl)
abbrev mn16 : MethodName := ⟨"java/lang/StringBuilder", "append", "(Ljava/lang/String;)Ljava/lang/StringBuilder;"⟩
theorem ow54 {Z : State} {a0 : Array Value} (hw : ∀ d ∈ tables_1, d.before a0 Z = true) : (Jvm.Cond.code ({ cls := "java/lang/StringBuilder", name := "append", desc := "(Ljava/lang/String;)Ljava/lang/StringBuilder;" } : Jvm.MethodName) jdk_67_method_7_code (2 : Nat) (Option.some (Jvm.ClassFile.FieldType.object "java/lang/StringBuilder"))).before a0 Z = true := hw _ (List.mem_of_getElem? (i := 54) rfl)
theorem ow53 {Z : State} {a0 : Array Value} (hw : ∀ d ∈ tables_1, d.before a0 Z = true) : (Jvm.Cond.selects "java/lang/StringBuilder" ({ cls := "java/lang/StringBuilder", name := "append", desc := "(Ljava/lang/String;)Ljava/lang/StringBuilder;" } : Jvm.MethodName) ({ cls := "java/lang/StringBuilder", name := "append", desc := "(Ljava/lang/String;)Ljava/lang/StringBuilder;" } : Jvm.MethodName)).before a0 Z = true := hw _ (List.mem_of_getElem? (i := 53) rfl)
theorem ow51 {Z : State} {a0 : Array Value} (hw : ∀ d ∈ tables_1, d.before a0 Z = true) : (Jvm.Cond.declares ({ cls := "java/lang/StringBuilder", name := "append", desc := "(Ljava/lang/String;)Ljava/lang/StringBuilder;" } : Jvm.MethodName)).before a0 Z = true := hw _ (List.mem_of_getElem? (i := 51) rfl)
theorem ow52 {Z : State} {a0 : Array Value} (hw : ∀ d ∈ tables_1, d.before a0 Z = true) : (Jvm.Cond.instanceMethod ({ cls := "java/lang/StringBuilder", name := "append", desc := "(Ljava/lang/String;)Ljava/lang/StringBuilder;" } : Jvm.MethodName)).before a0 Z = true := hw _ (List.mem_of_getElem? (i := 52) rfl)
theorem ow123 {Z : State} {a0 : Array Value} (hw : ∀ d ∈ tables_1, d.before a0 Z = true) : (Jvm.Cond.methodLink "com/example/tally_of_calls/tallyofcalls/Counts" (22 : Nat) ({ cls := "java/lang/StringBuilder", name := "append", desc := "(I)Ljava/lang/StringBuilder;" } : Jvm.MethodName)).before a0 Z = true := hw _ (List.mem_of_getElem? (i := 123) rfl)
theorem ow128 {Z : State} {a0 : Array Value} (hw : ∀ d ∈ tables_1, d.before a0 Z = true) : (Jvm.Cond.methodLink "java/lang/StringBuilder" (53 : Nat) ({ cls := "java/lang/AbstractStringBuilder", name := "append", desc := "(I)Ljava/lang/AbstractStringBuilder;" } : Jvm.MethodName)).before a0 Z = true := hw _ (List.mem_of_getElem? (i := 128) rfl)
theorem ow132 {Z : State} {a0 : Array Value} (hw : ∀ d ∈ tables_1, d.before a0 Z = true) : (Jvm.Cond.methodLink "java/lang/AbstractStringBuilder" (245 : Nat) ({ cls := "java/lang/Integer", name := "stringSize", desc := "(I)I" } : Jvm.MethodName)).before a0 Z = true := hw _ (List.mem_of_getElem? (i := 132) rfl)
abbrev mn17 : MethodName := ⟨"java/lang/Integer", "stringSize", "(I)I"⟩
theorem ow135 {Z : State} {a0 : Array Value} (hw : ∀ d ∈ tables_1, d.before a0 Z = true) : (Jvm.Cond.code ({ cls := "java/lang/Integer", name := "stringSize", desc := "(I)I" } : Jvm.MethodName) jdk_33_method_13_code (4 : Nat) (Option.some Jvm.ClassFile.FieldType.int)).before a0 Z = true := hw _ (List.mem_of_getElem? (i := 135) rfl)
theorem ow134 {Z : State} {a0 : Array Value} (hw : ∀ d ∈ tables_1, d.before a0 Z = true) : (Jvm.Cond.initialized "java/lang/Integer").before a0 Z = true := hw _ (List.mem_of_getElem? (i := 134) rfl)
theorem ow133 {Z : State} {a0 : Array Value} (hw : ∀ d ∈ tables_1, d.before a0 Z = true) : (Jvm.Cond.static ({ cls := "java/lang/Integer", name := "stringSize", desc := "(I)I" } : Jvm.MethodName)).before a0 Z = true := hw _ (List.mem_of_getElem? (i := 133) rfl)
theorem ow136 {Z : State} {a0 : Array Value} (hw : ∀ d ∈ tables_1, d.before a0 Z = true) : (Jvm.Cond.methodLink "java/lang/AbstractStringBuilder" (83 : Nat) ({ cls := "java/lang/AbstractStringBuilder", name := "isLatin1", desc := "()Z" } : Jvm.MethodName)).before a0 Z = true := hw _ (List.mem_of_getElem? (i := 136) rfl)
abbrev mn18 : MethodName := ⟨"java/lang/AbstractStringBuilder", "isLatin1", "()Z"⟩
theorem ow140 {Z : State} {a0 : Array Value} (hw : ∀ d ∈ tables_1, d.before a0 Z = true) : (Jvm.Cond.code ({ cls := "java/lang/AbstractStringBuilder", name := "isLatin1", desc := "()Z" } : Jvm.MethodName) jdk_68_method_68_code (1 : Nat) (Option.some Jvm.ClassFile.FieldType.boolean)).before a0 Z = true := hw _ (List.mem_of_getElem? (i := 140) rfl)
theorem ow139 {Z : State} {a0 : Array Value} (hw : ∀ d ∈ tables_1, d.before a0 Z = true) : (Jvm.Cond.selects "java/lang/StringBuilder" ({ cls := "java/lang/AbstractStringBuilder", name := "isLatin1", desc := "()Z" } : Jvm.MethodName) ({ cls := "java/lang/AbstractStringBuilder", name := "isLatin1", desc := "()Z" } : Jvm.MethodName)).before a0 Z = true := hw _ (List.mem_of_getElem? (i := 139) rfl)
theorem ow137 {Z : State} {a0 : Array Value} (hw : ∀ d ∈ tables_1, d.before a0 Z = true) : (Jvm.Cond.declares ({ cls := "java/lang/AbstractStringBuilder", name := "isLatin1", desc := "()Z" } : Jvm.MethodName)).before a0 Z = true := hw _ (List.mem_of_getElem? (i := 137) rfl)
theorem ow138 {Z : State} {a0 : Array Value} (hw : ∀ d ∈ tables_1, d.before a0 Z = true) : (Jvm.Cond.instanceMethod ({ cls := "java/lang/AbstractStringBuilder", name := "isLatin1", desc := "()Z" } : Jvm.MethodName)).before a0 Z = true := hw _ (List.mem_of_getElem? (i := 138) rfl)
theorem ow141 {Z : State} {a0 : Array Value} (hw : ∀ d ∈ tables_1, d.before a0 Z = true) : (Jvm.Cond.methodLink "java/lang/AbstractStringBuilder" (248 : Nat) ({ cls := "java/lang/Integer", name := "getChars", desc := "(II[B)I" } : Jvm.MethodName)).before a0 Z = true := hw _ (List.mem_of_getElem? (i := 141) rfl)
theorem ow144 {Z : State} {a0 : Array Value} (hw : ∀ d ∈ tables_1, d.before a0 Z = true) : (Jvm.Cond.fieldLink "java/lang/Integer" (83 : Nat) "java/lang/Integer" "DigitOnes" "[B").before a0 Z = true := hw _ (List.mem_of_getElem? (i := 144) rfl)
abbrev mn19 : MethodName := ⟨"java/lang/Integer", "getChars", "(II[B)I"⟩
theorem ow143 {Z : State} {a0 : Array Value} (hw : ∀ d ∈ tables_1, d.before a0 Z = true) : (Jvm.Cond.code ({ cls := "java/lang/Integer", name := "getChars", desc := "(II[B)I" } : Jvm.MethodName) jdk_33_method_12_code (7 : Nat) (Option.some Jvm.ClassFile.FieldType.int)).before a0 Z = true := hw _ (List.mem_of_getElem? (i := 143) rfl)
theorem ow142 {Z : State} {a0 : Array Value} (hw : ∀ d ∈ tables_1, d.before a0 Z = true) : (Jvm.Cond.static ({ cls := "java/lang/Integer", name := "getChars", desc := "(II[B)I" } : Jvm.MethodName)).before a0 Z = true := hw _ (List.mem_of_getElem? (i := 142) rfl)
abbrev mn20 : MethodName := ⟨"java/lang/AbstractStringBuilder", "append", "(I)Ljava/lang/AbstractStringBuilder;"⟩
theorem ow131 {Z : State} {a0 : Array Value} (hw : ∀ d ∈ tables_1, d.before a0 Z = true) : (Jvm.Cond.code ({ cls := "java/lang/AbstractStringBuilder", name := "append", desc := "(I)Ljava/lang/AbstractStringBuilder;" } : Jvm.MethodName) jdk_68_method_32_code (4 : Nat) (Option.some (Jvm.ClassFile.FieldType.object "java/lang/AbstractStringBuilder"))).before a0 Z = true := hw _ (List.mem_of_getElem? (i := 131) rfl)
theorem ow129 {Z : State} {a0 : Array Value} (hw : ∀ d ∈ tables_1, d.before a0 Z = true) : (Jvm.Cond.instanceMethod ({ cls := "java/lang/AbstractStringBuilder", name := "append", desc := "(I)Ljava/lang/AbstractStringBuilder;" } : Jvm.MethodName)).before a0 Z = true := hw _ (List.mem_of_getElem? (i := 129) rfl)
abbrev mn21 : MethodName := ⟨"java/lang/StringBuilder", "append", "(I)Ljava/lang/StringBuilder;"⟩
theorem ow127 {Z : State} {a0 : Array Value} (hw : ∀ d ∈ tables_1, d.before a0 Z = true) : (Jvm.Cond.code ({ cls := "java/lang/StringBuilder", name := "append", desc := "(I)Ljava/lang/StringBuilder;" } : Jvm.MethodName) jdk_67_method_15_code (2 : Nat) (Option.some (Jvm.ClassFile.FieldType.object "java/lang/StringBuilder"))).before a0 Z = true := hw _ (List.mem_of_getElem? (i := 127) rfl)
theorem ow126 {Z : State} {a0 : Array Value} (hw : ∀ d ∈ tables_1, d.before a0 Z = true) : (Jvm.Cond.selects "java/lang/StringBuilder" ({ cls := "java/lang/StringBuilder", name := "append", desc := "(I)Ljava/lang/StringBuilder;" } : Jvm.MethodName) ({ cls := "java/lang/StringBuilder", name := "append", desc := "(I)Ljava/lang/StringBuilder;" } : Jvm.MethodName)).before a0 Z = true := hw _ (List.mem_of_getElem? (i := 126) rfl)
theorem ow124 {Z : State} {a0 : Array Value} (hw : ∀ d ∈ tables_1, d.before a0 Z = true) : (Jvm.Cond.declares ({ cls := "java/lang/StringBuilder", name := "append", desc := "(I)Ljava/lang/StringBuilder;" } : Jvm.MethodName)).before a0 Z = true := hw _ (List.mem_of_getElem? (i := 124) rfl)
theorem ow125 {Z : State} {a0 : Array Value} (hw : ∀ d ∈ tables_1, d.before a0 Z = true) : (Jvm.Cond.instanceMethod ({ cls := "java/lang/StringBuilder", name := "append", desc := "(I)Ljava/lang/StringBuilder;" } : Jvm.MethodName)).before a0 Z = true := hw _ (List.mem_of_getElem? (i := 125) rfl)
theorem ow145 {Z : State} {a0 : Array Value} (hw : ∀ d ∈ tables_1, d.before a0 Z = true) : (Jvm.Cond.methodLink "com/example/tally_of_calls/tallyofcalls/Counts" (27 : Nat) ({ cls := "java/lang/StringBuilder", name := "toString", desc := "()Ljava/lang/String;" } : Jvm.MethodName)).before a0 Z = true := hw _ (List.mem_of_getElem? (i := 145) rfl)
theorem ow150 {Z : State} {a0 : Array Value} (hw : ∀ d ∈ tables_1, d.before a0 Z = true) : (Jvm.Cond.classLink "java/lang/StringBuilder" (18 : Nat) "java/lang/String").before a0 Z = true := hw _ (List.mem_of_getElem? (i := 150) rfl)
theorem ow10 {Z : State} {a0 : Array Value} (hw : ∀ d ∈ tables_1, d.before a0 Z = true) : (Jvm.Cond.instantiable "java/lang/String" (4 : Nat)).before a0 Z = true := hw _ (List.mem_of_getElem? (i := 10) rfl)
theorem ow12 {Z : State} {a0 : Array Value} (hw : ∀ d ∈ tables_1, d.before a0 Z = true) : (Jvm.Cond.laysFinal "java/lang/String" "java/lang/String" "value" "[B").before a0 Z = true := hw _ (List.mem_of_getElem? (i := 12) rfl)
theorem ow13 {Z : State} {a0 : Array Value} (hw : ∀ d ∈ tables_1, d.before a0 Z = true) : (Jvm.Cond.laysFinal "java/lang/String" "java/lang/String" "coder" "B").before a0 Z = true := hw _ (List.mem_of_getElem? (i := 13) rfl)
theorem ow151 {Z : State} {a0 : Array Value} (hw : ∀ d ∈ tables_1, d.before a0 Z = true) : (Jvm.Cond.methodLink "java/lang/StringBuilder" (137 : Nat) ({ cls := "java/lang/String", name := "<init>", desc := "(Ljava/lang/StringBuilder;)V" } : Jvm.MethodName)).before a0 Z = true := hw _ (List.mem_of_getElem? (i := 151) rfl)
theorem ow155 {Z : State} {a0 : Array Value} (hw : ∀ d ∈ tables_1, d.before a0 Z = true) : (Jvm.Cond.methodLink "java/lang/String" (489 : Nat) ({ cls := "java/lang/String", name := "<init>", desc := "(Ljava/lang/AbstractStringBuilder;Ljava/lang/Void;)V" } : Jvm.MethodName)).before a0 Z = true := hw _ (List.mem_of_getElem? (i := 155) rfl)
theorem ow158 {Z : State} {a0 : Array Value} (hw : ∀ d ∈ tables_1, d.before a0 Z = true) : (Jvm.Cond.methodLink "java/lang/String" (1 : Nat) ({ cls := "java/lang/Object", name := "<init>", desc := "()V" } : Jvm.MethodName)).before a0 Z = true := hw _ (List.mem_of_getElem? (i := 158) rfl)
theorem ow159 {Z : State} {a0 : Array Value} (hw : ∀ d ∈ tables_1, d.before a0 Z = true) : (Jvm.Cond.methodLink "java/lang/String" (552 : Nat) ({ cls := "java/lang/AbstractStringBuilder", name := "getValue", desc := "()[B" } : Jvm.MethodName)).before a0 Z = true := hw _ (List.mem_of_getElem? (i := 159) rfl)
abbrev mn22 : MethodName := ⟨"java/lang/AbstractStringBuilder", "getValue", "()[B"⟩
theorem ow163 {Z : State} {a0 : Array Value} (hw : ∀ d ∈ tables_1, d.before a0 Z = true) : (Jvm.Cond.code ({ cls := "java/lang/AbstractStringBuilder", name := "getValue", desc := "()[B" } : Jvm.MethodName) jdk_68_method_64_code (1 : Nat) (Option.some (Jvm.ClassFile.FieldType.array Jvm.ClassFile.FieldType.byte))).before a0 Z = true := hw _ (List.mem_of_getElem? (i := 163) rfl)
theorem ow162 {Z : State} {a0 : Array Value} (hw : ∀ d ∈ tables_1, d.before a0 Z = true) : (Jvm.Cond.selects "java/lang/StringBuilder" ({ cls := "java/lang/AbstractStringBuilder", name := "getValue", desc := "()[B" } : Jvm.MethodName) ({ cls := "java/lang/AbstractStringBuilder", name := "getValue", desc := "()[B" } : Jvm.MethodName)).before a0 Z = true := hw _ (List.mem_of_getElem? (i := 162) rfl)
theorem ow160 {Z : State} {a0 : Array Value} (hw : ∀ d ∈ tables_1, d.before a0 Z = true) : (Jvm.Cond.declares ({ cls := "java/lang/AbstractStringBuilder", name := "getValue", desc := "()[B" } : Jvm.MethodName)).before a0 Z = true := hw _ (List.mem_of_getElem? (i := 160) rfl)
theorem ow161 {Z : State} {a0 : Array Value} (hw : ∀ d ∈ tables_1, d.before a0 Z = true) : (Jvm.Cond.instanceMethod ({ cls := "java/lang/AbstractStringBuilder", name := "getValue", desc := "()[B" } : Jvm.MethodName)).before a0 Z = true := hw _ (List.mem_of_getElem? (i := 161) rfl)
theorem ow164 {Z : State} {a0 : Array Value} (hw : ∀ d ∈ tables_1, d.before a0 Z = true) : (Jvm.Cond.methodLink "java/lang/String" (549 : Nat) ({ cls := "java/lang/AbstractStringBuilder", name := "length", desc := "()I" } : Jvm.MethodName)).before a0 Z = true := hw _ (List.mem_of_getElem? (i := 164) rfl)
theorem ow170 {Z : State} {a0 : Array Value} (hw : ∀ d ∈ tables_1, d.before a0 Z = true) : (Jvm.Cond.methodLink "java/lang/StringBuilder" (343 : Nat) ({ cls := "java/lang/AbstractStringBuilder", name := "length", desc := "()I" } : Jvm.MethodName)).before a0 Z = true := hw _ (List.mem_of_getElem? (i := 170) rfl)
abbrev mn23 : MethodName := ⟨"java/lang/AbstractStringBuilder", "length", "()I"⟩
theorem ow171 {Z : State} {a0 : Array Value} (hw : ∀ d ∈ tables_1, d.before a0 Z = true) : (Jvm.Cond.code ({ cls := "java/lang/AbstractStringBuilder", name := "length", desc := "()I" } : Jvm.MethodName) jdk_68_method_6_code (1 : Nat) (Option.some Jvm.ClassFile.FieldType.int)).before a0 Z = true := hw _ (List.mem_of_getElem? (i := 171) rfl)
theorem ow166 {Z : State} {a0 : Array Value} (hw : ∀ d ∈ tables_1, d.before a0 Z = true) : (Jvm.Cond.instanceMethod ({ cls := "java/lang/AbstractStringBuilder", name := "length", desc := "()I" } : Jvm.MethodName)).before a0 Z = true := hw _ (List.mem_of_getElem? (i := 166) rfl)
abbrev mn24 : MethodName := ⟨"java/lang/StringBuilder", "length", "()I"⟩
theorem ow169 {Z : State} {a0 : Array Value} (hw : ∀ d ∈ tables_1, d.before a0 Z = true) : (Jvm.Cond.code ({ cls := "java/lang/StringBuilder", name := "length", desc := "()I" } : Jvm.MethodName) jdk_67_method_93_code (1 : Nat) (Option.some Jvm.ClassFile.FieldType.int)).before a0 Z = true := hw _ (List.mem_of_getElem? (i := 169) rfl)
theorem ow167 {Z : State} {a0 : Array Value} (hw : ∀ d ∈ tables_1, d.before a0 Z = true) : (Jvm.Cond.selects "java/lang/StringBuilder" ({ cls := "java/lang/AbstractStringBuilder", name := "length", desc := "()I" } : Jvm.MethodName) ({ cls := "java/lang/StringBuilder", name := "length", desc := "()I" } : Jvm.MethodName)).before a0 Z = true := hw _ (List.mem_of_getElem? (i := 167) rfl)
theorem ow165 {Z : State} {a0 : Array Value} (hw : ∀ d ∈ tables_1, d.before a0 Z = true) : (Jvm.Cond.declares ({ cls := "java/lang/AbstractStringBuilder", name := "length", desc := "()I" } : Jvm.MethodName)).before a0 Z = true := hw _ (List.mem_of_getElem? (i := 165) rfl)
theorem ow168 {Z : State} {a0 : Array Value} (hw : ∀ d ∈ tables_1, d.before a0 Z = true) : (Jvm.Cond.instanceMethod ({ cls := "java/lang/StringBuilder", name := "length", desc := "()I" } : Jvm.MethodName)).before a0 Z = true := hw _ (List.mem_of_getElem? (i := 168) rfl)
theorem ow172 {Z : State} {a0 : Array Value} (hw : ∀ d ∈ tables_1, d.before a0 Z = true) : (Jvm.Cond.methodLink "java/lang/String" (1047 : Nat) ({ cls := "java/lang/AbstractStringBuilder", name := "isLatin1", desc := "()Z" } : Jvm.MethodName)).before a0 Z = true := hw _ (List.mem_of_getElem? (i := 172) rfl)
theorem ow173 {Z : State} {a0 : Array Value} (hw : ∀ d ∈ tables_1, d.before a0 Z = true) : (Jvm.Cond.methodLink "java/lang/String" (54 : Nat) ({ cls := "java/util/Arrays", name := "copyOfRange", desc := "([BII)[B" } : Jvm.MethodName)).before a0 Z = true := hw _ (List.mem_of_getElem? (i := 173) rfl)
theorem ow176 {Z : State} {a0 : Array Value} (hw : ∀ d ∈ tables_1, d.before a0 Z = true) : (Jvm.Cond.methodLink "java/util/Arrays" (339 : Nat) ({ cls := "java/util/Arrays", name := "copyOfRangeByte", desc := "([BII)[B" } : Jvm.MethodName)).before a0 Z = true := hw _ (List.mem_of_getElem? (i := 176) rfl)
theorem ow179 {Z : State} {a0 : Array Value} (hw : ∀ d ∈ tables_1, d.before a0 Z = true) : (Jvm.Cond.methodLink "java/util/Arrays" (343 : Nat) ({ cls := "java/util/Arrays", name := "checkLength", desc := "(II)V" } : Jvm.MethodName)).before a0 Z = true := hw _ (List.mem_of_getElem? (i := 179) rfl)
abbrev mn25 : MethodName := ⟨"java/util/Arrays", "checkLength", "(II)V"⟩
theorem ow181 {Z : State} {a0 : Array Value} (hw : ∀ d ∈ tables_1, d.before a0 Z = true) : (Jvm.Cond.code ({ cls := "java/util/Arrays", name := "checkLength", desc := "(II)V" } : Jvm.MethodName) jdk_65_method_131_code (2 : Nat) (Option.none : Option Jvm.ClassFile.FieldType)).before a0 Z = true := hw _ (List.mem_of_getElem? (i := 181) rfl)
theorem ow180 {Z : State} {a0 : Array Value} (hw : ∀ d ∈ tables_1, d.before a0 Z = true) : (Jvm.Cond.static ({ cls := "java/util/Arrays", name := "checkLength", desc := "(II)V" } : Jvm.MethodName)).before a0 Z = true := hw _ (List.mem_of_getElem? (i := 180) rfl)
def own_ls5 : List Value := [(.int (0 : Int32)), (.int (0 : Int32)), (.int (0 : Int32)), (.int (0 : Int32)), (.int (0 : Int32)), (.int (0 : Int32)), (.int (0 : Int32)), (.int (0 : Int32)), (.int (0 : Int32)), (.int (0 : Int32)), (.int (0 : Int32)), (.int (0 : Int32)), (.int (0 : Int32)), (.int (0 : Int32)), (.int (0 : Int32)), (.int (0 : Int32)), (.int (0 : Int32)), (.int (0 : Int32)), (.int (0 : Int32))]
abbrev mn26 : MethodName := ⟨"java/util/Arrays", "copyOfRangeByte", "([BII)[B"⟩
theorem ow178 {Z : State} {a0 : Array Value} (hw : ∀ d ∈ tables_1, d.before a0 Z = true) : (Jvm.Cond.code ({ cls := "java/util/Arrays", name := "copyOfRangeByte", desc := "([BII)[B" } : Jvm.MethodName) jdk_65_method_133_code (5 : Nat) (Option.some (Jvm.ClassFile.FieldType.array Jvm.ClassFile.FieldType.byte))).before a0 Z = true := hw _ (List.mem_of_getElem? (i := 178) rfl)
theorem ow177 {Z : State} {a0 : Array Value} (hw : ∀ d ∈ tables_1, d.before a0 Z = true) : (Jvm.Cond.static ({ cls := "java/util/Arrays", name := "copyOfRangeByte", desc := "([BII)[B" } : Jvm.MethodName)).before a0 Z = true := hw _ (List.mem_of_getElem? (i := 177) rfl)
abbrev mn27 : MethodName := ⟨"java/util/Arrays", "copyOfRange", "([BII)[B"⟩
theorem ow175 {Z : State} {a0 : Array Value} (hw : ∀ d ∈ tables_1, d.before a0 Z = true) : (Jvm.Cond.code ({ cls := "java/util/Arrays", name := "copyOfRange", desc := "([BII)[B" } : Jvm.MethodName) jdk_65_method_132_code (3 : Nat) (Option.some (Jvm.ClassFile.FieldType.array Jvm.ClassFile.FieldType.byte))).before a0 Z = true := hw _ (List.mem_of_getElem? (i := 175) rfl)
theorem ow174 {Z : State} {a0 : Array Value} (hw : ∀ d ∈ tables_1, d.before a0 Z = true) : (Jvm.Cond.static ({ cls := "java/util/Arrays", name := "copyOfRange", desc := "([BII)[B" } : Jvm.MethodName)).before a0 Z = true := hw _ (List.mem_of_getElem? (i := 174) rfl)
abbrev mn28 : MethodName := ⟨"java/lang/String", "<init>", "(Ljava/lang/AbstractStringBuilder;Ljava/lang/Void;)V"⟩
theorem ow157 {Z : State} {a0 : Array Value} (hw : ∀ d ∈ tables_1, d.before a0 Z = true) : (Jvm.Cond.code ({ cls := "java/lang/String", name := "<init>", desc := "(Ljava/lang/AbstractStringBuilder;Ljava/lang/Void;)V" } : Jvm.MethodName) jdk_42_method_150_code (5 : Nat) (Option.none : Option Jvm.ClassFile.FieldType)).before a0 Z = true := hw _ (List.mem_of_getElem? (i := 157) rfl)
theorem ow156 {Z : State} {a0 : Array Value} (hw : ∀ d ∈ tables_1, d.before a0 Z = true) : (Jvm.Cond.instanceMethod ({ cls := "java/lang/String", name := "<init>", desc := "(Ljava/lang/AbstractStringBuilder;Ljava/lang/Void;)V" } : Jvm.MethodName)).before a0 Z = true := hw _ (List.mem_of_getElem? (i := 156) rfl)
abbrev mn29 : MethodName := ⟨"java/lang/String", "<init>", "(Ljava/lang/StringBuilder;)V"⟩
theorem ow154 {Z : State} {a0 : Array Value} (hw : ∀ d ∈ tables_1, d.before a0 Z = true) : (Jvm.Cond.code ({ cls := "java/lang/String", name := "<init>", desc := "(Ljava/lang/StringBuilder;)V" } : Jvm.MethodName) jdk_42_method_53_code (2 : Nat) (Option.none : Option Jvm.ClassFile.FieldType)).before a0 Z = true := hw _ (List.mem_of_getElem? (i := 154) rfl)
theorem ow152 {Z : State} {a0 : Array Value} (hw : ∀ d ∈ tables_1, d.before a0 Z = true) : (Jvm.Cond.instanceMethod ({ cls := "java/lang/String", name := "<init>", desc := "(Ljava/lang/StringBuilder;)V" } : Jvm.MethodName)).before a0 Z = true := hw _ (List.mem_of_getElem? (i := 152) rfl)
abbrev mn30 : MethodName := ⟨"java/lang/StringBuilder", "toString", "()Ljava/lang/String;"⟩
theorem ow149 {Z : State} {a0 : Array Value} (hw : ∀ d ∈ tables_1, d.before a0 Z = true) : (Jvm.Cond.code ({ cls := "java/lang/StringBuilder", name := "toString", desc := "()Ljava/lang/String;" } : Jvm.MethodName) jdk_67_method_42_code (1 : Nat) (Option.some (Jvm.ClassFile.FieldType.object "java/lang/String"))).before a0 Z = true := hw _ (List.mem_of_getElem? (i := 149) rfl)
theorem ow148 {Z : State} {a0 : Array Value} (hw : ∀ d ∈ tables_1, d.before a0 Z = true) : (Jvm.Cond.selects "java/lang/StringBuilder" ({ cls := "java/lang/StringBuilder", name := "toString", desc := "()Ljava/lang/String;" } : Jvm.MethodName) ({ cls := "java/lang/StringBuilder", name := "toString", desc := "()Ljava/lang/String;" } : Jvm.MethodName)).before a0 Z = true := hw _ (List.mem_of_getElem? (i := 148) rfl)
theorem ow146 {Z : State} {a0 : Array Value} (hw : ∀ d ∈ tables_1, d.before a0 Z = true) : (Jvm.Cond.declares ({ cls := "java/lang/StringBuilder", name := "toString", desc := "()Ljava/lang/String;" } : Jvm.MethodName)).before a0 Z = true := hw _ (List.mem_of_getElem? (i := 146) rfl)
theorem ow147 {Z : State} {a0 : Array Value} (hw : ∀ d ∈ tables_1, d.before a0 Z = true) : (Jvm.Cond.instanceMethod ({ cls := "java/lang/StringBuilder", name := "toString", desc := "()Ljava/lang/String;" } : Jvm.MethodName)).before a0 Z = true := hw _ (List.mem_of_getElem? (i := 147) rfl)
abbrev mn31 : MethodName := ⟨"com/example/tally_of_calls/tallyofcalls/Counts", "atLeast", "(I)Lcom/example/tally_of_calls/tallyofcalls/Count;"⟩
theorem ow0 {Z : State} {a0 : Array Value} (hw : ∀ d ∈ tables_1, d.before a0 Z = true) : (Jvm.Cond.methodLink "com/example/tally_of_calls/tallyofcalls/CountsAnyNumberPinLaw" (7 : Nat) ({ cls := "com/example/tally_of_calls/tallyofcalls/Counts", name := "anyNumber", desc := "()Lcom/example/tally_of_calls/tallyofcalls/Count;" } : Jvm.MethodName)).before a0 Z = true := hw _ (List.mem_of_getElem? (i := 0) rfl)
theorem ow3 {Z : State} {a0 : Array Value} (hw : ∀ d ∈ tables_1, d.before a0 Z = true) : (Jvm.Cond.code ({ cls := "com/example/tally_of_calls/tallyofcalls/Counts", name := "anyNumber", desc := "()Lcom/example/tally_of_calls/tallyofcalls/Count;" } : Jvm.MethodName) prog_5_method_7_code (0 : Nat) (Option.some (Jvm.ClassFile.FieldType.object "com/example/tally_of_calls/tallyofcalls/Count"))).before a0 Z = true := hw _ (List.mem_of_getElem? (i := 3) rfl)
theorem ow2 {Z : State} {a0 : Array Value} (hw : ∀ d ∈ tables_1, d.before a0 Z = true) : (Jvm.Cond.initialized "com/example/tally_of_calls/tallyofcalls/Counts").before a0 Z = true := hw _ (List.mem_of_getElem? (i := 2) rfl)
theorem ow1 {Z : State} {a0 : Array Value} (hw : ∀ d ∈ tables_1, d.before a0 Z = true) : (Jvm.Cond.static ({ cls := "com/example/tally_of_calls/tallyofcalls/Counts", name := "anyNumber", desc := "()Lcom/example/tally_of_calls/tallyofcalls/Count;" } : Jvm.MethodName)).before a0 Z = true := hw _ (List.mem_of_getElem? (i := 1) rfl)
theorem ow28 {Z : State} {a0 : Array Value} (hw : ∀ d ∈ tables_1, d.before a0 Z = true) : (Jvm.Cond.methodLink "com/example/tally_of_calls/tallyofcalls/CountsAnyNumberPinLaw" (13 : Nat) ({ cls := "com/example/tally_of_calls/tallyofcalls/Counts", name := "atLeast", desc := "(I)Lcom/example/tally_of_calls/tallyofcalls/Count;" } : Jvm.MethodName)).before a0 Z = true := hw _ (List.mem_of_getElem? (i := 28) rfl)
theorem ow30 {Z : State} {a0 : Array Value} (hw : ∀ d ∈ tables_1, d.before a0 Z = true) : (Jvm.Cond.code ({ cls := "com/example/tally_of_calls/tallyofcalls/Counts", name := "atLeast", desc := "(I)Lcom/example/tally_of_calls/tallyofcalls/Count;" } : Jvm.MethodName) prog_5_method_4_code (1 : Nat) (Option.some (Jvm.ClassFile.FieldType.object "com/example/tally_of_calls/tallyofcalls/Count"))).before a0 Z = true := hw _ (List.mem_of_getElem? (i := 30) rfl)
theorem ow29 {Z : State} {a0 : Array Value} (hw : ∀ d ∈ tables_1, d.before a0 Z = true) : (Jvm.Cond.static ({ cls := "com/example/tally_of_calls/tallyofcalls/Counts", name := "atLeast", desc := "(I)Lcom/example/tally_of_calls/tallyofcalls/Count;" } : Jvm.MethodName)).before a0 Z = true := hw _ (List.mem_of_getElem? (i := 29) rfl)
theorem ow182 {Z : State} {a0 : Array Value} (hw : ∀ d ∈ tables_1, d.before a0 Z = true) : (Jvm.Cond.constantLong "com/example/tally_of_calls/tallyofcalls/CountsAnyNumberPinLaw" (19 : Nat) (9223372036854775807 : Int64)).before a0 Z = true := hw _ (List.mem_of_getElem? (i := 182) rfl)
theorem ow183 {Z : State} {a0 : Array Value} (hw : ∀ d ∈ tables_1, d.before a0 Z = true) : (Jvm.Cond.methodLink "com/example/tally_of_calls/tallyofcalls/CountsAnyNumberPinLaw" (21 : Nat) ({ cls := "com/example/tally_of_calls/tallyofcalls/Count", name := "min", desc := "()I" } : Jvm.MethodName)).before a0 Z = true := hw _ (List.mem_of_getElem? (i := 183) rfl)
abbrev mn32 : MethodName := ⟨"com/example/tally_of_calls/tallyofcalls/Count", "min", "()I"⟩
theorem ow187 {Z : State} {a0 : Array Value} (hw : ∀ d ∈ tables_1, d.before a0 Z = true) : (Jvm.Cond.code ({ cls := "com/example/tally_of_calls/tallyofcalls/Count", name := "min", desc := "()I" } : Jvm.MethodName) prog_4_method_2_code (1 : Nat) (Option.some Jvm.ClassFile.FieldType.int)).before a0 Z = true := hw _ (List.mem_of_getElem? (i := 187) rfl)
theorem ow186 {Z : State} {a0 : Array Value} (hw : ∀ d ∈ tables_1, d.before a0 Z = true) : (Jvm.Cond.selects "com/example/tally_of_calls/tallyofcalls/Count" ({ cls := "com/example/tally_of_calls/tallyofcalls/Count", name := "min", desc := "()I" } : Jvm.MethodName) ({ cls := "com/example/tally_of_calls/tallyofcalls/Count", name := "min", desc := "()I" } : Jvm.MethodName)).before a0 Z = true := hw _ (List.mem_of_getElem? (i := 186) rfl)
theorem ow184 {Z : State} {a0 : Array Value} (hw : ∀ d ∈ tables_1, d.before a0 Z = true) : (Jvm.Cond.declares ({ cls := "com/example/tally_of_calls/tallyofcalls/Count", name := "min", desc := "()I" } : Jvm.MethodName)).before a0 Z = true := hw _ (List.mem_of_getElem? (i := 184) rfl)
theorem ow185 {Z : State} {a0 : Array Value} (hw : ∀ d ∈ tables_1, d.before a0 Z = true) : (Jvm.Cond.instanceMethod ({ cls := "com/example/tally_of_calls/tallyofcalls/Count", name := "min", desc := "()I" } : Jvm.MethodName)).before a0 Z = true := hw _ (List.mem_of_getElem? (i := 185) rfl)
theorem ow188 {Z : State} {a0 : Array Value} (hw : ∀ d ∈ tables_1, d.before a0 Z = true) : (Jvm.Cond.methodLink "com/example/tally_of_calls/tallyofcalls/CountsAnyNumberPinLaw" (27 : Nat) ({ cls := "com/example/tally_of_calls/tallyofcalls/Count", name := "max", desc := "()J" } : Jvm.MethodName)).before a0 Z = true := hw _ (List.mem_of_getElem? (i := 188) rfl)
abbrev mn33 : MethodName := ⟨"com/example/tally_of_calls/tallyofcalls/Count", "max", "()J"⟩
theorem ow192 {Z : State} {a0 : Array Value} (hw : ∀ d ∈ tables_1, d.before a0 Z = true) : (Jvm.Cond.code ({ cls := "com/example/tally_of_calls/tallyofcalls/Count", name := "max", desc := "()J" } : Jvm.MethodName) prog_4_method_3_code (1 : Nat) (Option.some Jvm.ClassFile.FieldType.long)).before a0 Z = true := hw _ (List.mem_of_getElem? (i := 192) rfl)
theorem ow191 {Z : State} {a0 : Array Value} (hw : ∀ d ∈ tables_1, d.before a0 Z = true) : (Jvm.Cond.selects "com/example/tally_of_calls/tallyofcalls/Count" ({ cls := "com/example/tally_of_calls/tallyofcalls/Count", name := "max", desc := "()J" } : Jvm.MethodName) ({ cls := "com/example/tally_of_calls/tallyofcalls/Count", name := "max", desc := "()J" } : Jvm.MethodName)).before a0 Z = true := hw _ (List.mem_of_getElem? (i := 191) rfl)
theorem ow189 {Z : State} {a0 : Array Value} (hw : ∀ d ∈ tables_1, d.before a0 Z = true) : (Jvm.Cond.declares ({ cls := "com/example/tally_of_calls/tallyofcalls/Count", name := "max", desc := "()J" } : Jvm.MethodName)).before a0 Z = true := hw _ (List.mem_of_getElem? (i := 189) rfl)
theorem ow190 {Z : State} {a0 : Array Value} (hw : ∀ d ∈ tables_1, d.before a0 Z = true) : (Jvm.Cond.instanceMethod ({ cls := "com/example/tally_of_calls/tallyofcalls/Count", name := "max", desc := "()J" } : Jvm.MethodName)).before a0 Z = true := hw _ (List.mem_of_getElem? (i := 190) rfl)
theorem ow193 {Z : State} {a0 : Array Value} (hw : ∀ d ∈ tables_1, d.before a0 Z = true) : (Jvm.Cond.methodLink "com/example/tally_of_calls/tallyofcalls/CountsAnyNumberPinLaw" (31 : Nat) ({ cls := "com/example/tally_of_calls/tallyofcalls/Count", name := "phrase", desc := "()Ljava/lang/String;" } : Jvm.MethodName)).before a0 Z = true := hw _ (List.mem_of_getElem? (i := 193) rfl)
abbrev mn34 : MethodName := ⟨"com/example/tally_of_calls/tallyofcalls/Count", "phrase", "()Ljava/lang/String;"⟩
theorem ow197 {Z : State} {a0 : Array Value} (hw : ∀ d ∈ tables_1, d.before a0 Z = true) : (Jvm.Cond.code ({ cls := "com/example/tally_of_calls/tallyofcalls/Count", name := "phrase", desc := "()Ljava/lang/String;" } : Jvm.MethodName) prog_4_method_4_code (1 : Nat) (Option.some (Jvm.ClassFile.FieldType.object "java/lang/String"))).before a0 Z = true := hw _ (List.mem_of_getElem? (i := 197) rfl)
theorem ow196 {Z : State} {a0 : Array Value} (hw : ∀ d ∈ tables_1, d.before a0 Z = true) : (Jvm.Cond.selects "com/example/tally_of_calls/tallyofcalls/Count" ({ cls := "com/example/tally_of_calls/tallyofcalls/Count", name := "phrase", desc := "()Ljava/lang/String;" } : Jvm.MethodName) ({ cls := "com/example/tally_of_calls/tallyofcalls/Count", name := "phrase", desc := "()Ljava/lang/String;" } : Jvm.MethodName)).before a0 Z = true := hw _ (List.mem_of_getElem? (i := 196) rfl)
theorem ow194 {Z : State} {a0 : Array Value} (hw : ∀ d ∈ tables_1, d.before a0 Z = true) : (Jvm.Cond.declares ({ cls := "com/example/tally_of_calls/tallyofcalls/Count", name := "phrase", desc := "()Ljava/lang/String;" } : Jvm.MethodName)).before a0 Z = true := hw _ (List.mem_of_getElem? (i := 194) rfl)
theorem ow195 {Z : State} {a0 : Array Value} (hw : ∀ d ∈ tables_1, d.before a0 Z = true) : (Jvm.Cond.instanceMethod ({ cls := "com/example/tally_of_calls/tallyofcalls/Count", name := "phrase", desc := "()Ljava/lang/String;" } : Jvm.MethodName)).before a0 Z = true := hw _ (List.mem_of_getElem? (i := 195) rfl)
theorem ow198 {Z : State} {a0 : Array Value} (hw : ∀ d ∈ tables_1, d.before a0 Z = true) : (Jvm.Cond.methodLink "com/example/tally_of_calls/tallyofcalls/CountsAnyNumberPinLaw" (35 : Nat) ({ cls := "java/lang/String", name := "isEmpty", desc := "()Z" } : Jvm.MethodName)).before a0 Z = true := hw _ (List.mem_of_getElem? (i := 198) rfl)
abbrev mn35 : MethodName := ⟨"java/lang/String", "isEmpty", "()Z"⟩
theorem ow202 {Z : State} {a0 : Array Value} (hw : ∀ d ∈ tables_1, d.before a0 Z = true) : (Jvm.Cond.code ({ cls := "java/lang/String", name := "isEmpty", desc := "()Z" } : Jvm.MethodName) jdk_42_method_55_code (1 : Nat) (Option.some Jvm.ClassFile.FieldType.boolean)).before a0 Z = true := hw _ (List.mem_of_getElem? (i := 202) rfl)
theorem ow201 {Z : State} {a0 : Array Value} (hw : ∀ d ∈ tables_1, d.before a0 Z = true) : (Jvm.Cond.selects "java/lang/String" ({ cls := "java/lang/String", name := "isEmpty", desc := "()Z" } : Jvm.MethodName) ({ cls := "java/lang/String", name := "isEmpty", desc := "()Z" } : Jvm.MethodName)).before a0 Z = true := hw _ (List.mem_of_getElem? (i := 201) rfl)
theorem ow199 {Z : State} {a0 : Array Value} (hw : ∀ d ∈ tables_1, d.before a0 Z = true) : (Jvm.Cond.declares ({ cls := "java/lang/String", name := "isEmpty", desc := "()Z" } : Jvm.MethodName)).before a0 Z = true := hw _ (List.mem_of_getElem? (i := 199) rfl)
theorem ow200 {Z : State} {a0 : Array Value} (hw : ∀ d ∈ tables_1, d.before a0 Z = true) : (Jvm.Cond.instanceMethod ({ cls := "java/lang/String", name := "isEmpty", desc := "()Z" } : Jvm.MethodName)).before a0 Z = true := hw _ (List.mem_of_getElem? (i := 200) rfl)
theorem own_addI {a b : Int32} (h1 : -2147483648 ≤ a.toInt + b.toInt) (h2 : a.toInt + b.toInt < 2147483648) : (a + b).toInt = a.toInt + b.toInt := by
  rw [Int32.toInt_add]; exact Int.bmod_eq_of_le (by omega) (by omega)
theorem own_subI {a b : Int32} (h1 : -2147483648 ≤ a.toInt - b.toInt) (h2 : a.toInt - b.toInt < 2147483648) : (a - b).toInt = a.toInt - b.toInt := by
  rw [Int32.toInt_sub]; exact Int.bmod_eq_of_le (by omega) (by omega)
theorem own_mulI {a b : Int32} (h1 : -2147483648 ≤ a.toInt * b.toInt) (h2 : a.toInt * b.toInt < 2147483648) : (a * b).toInt = a.toInt * b.toInt := by
  rw [Int32.toInt_mul]; exact Int.bmod_eq_of_le (by omega) (by omega)
theorem own_nat32 (x : Int32) (h : 0 ≤ x.toInt) : x.toInt = (x.toBitVec.toNat : Int) := by
  have e : x.toInt = x.toBitVec.toInt := rfl
  rw [BitVec.toInt_eq_toNat_cond] at e
  have := x.toBitVec.isLt
  split at e <;> omega
theorem own_maskI (x m : Int32) (h : 0 ≤ m.toInt) : 0 ≤ (x &&& m).toInt ∧ (x &&& m).toInt ≤ m.toInt := by
  have hm := own_nat32 m h
  have h1 : (x &&& m).toBitVec.toNat ≤ m.toBitVec.toNat := by rw [Int32.toBitVec_and, BitVec.toNat_and]; exact Nat.and_le_right
  have e : (x &&& m).toInt = (x &&& m).toBitVec.toInt := rfl
  have hl := Int32.toInt_lt m
  rw [e, BitVec.toInt_eq_toNat_cond]
  split <;> omega
theorem own_ltI {a b : Int32} : a < b ↔ a.toInt < b.toInt := Int32.lt_iff_toInt_lt
def own_el (vs : List Value) (j : Int32) : Int32 := match vs.getD j.toNatClampNeg (.int (0 : Int32)) with | .int z => z | _ => 0
def own_Ints (vs : List Value) : Prop := ∀ n, ∃ z, vs.getD n (.int (0 : Int32)) = .int z
theorem own_ints_nil : own_Ints [] := fun _ => ⟨0, rfl⟩
theorem own_ints_cons {z : Int32} {vs : List Value} (h : own_Ints vs) : own_Ints (.int z :: vs) := fun n => match n with
  | 0 => ⟨z, rfl⟩
  | n + 1 => h n
theorem own_el_at {vs : List Value} (h : own_Ints vs) (j : Int32) : vs.getD j.toNatClampNeg (.int (0 : Int32)) = .int (own_el vs j) := by
  obtain ⟨z, hz⟩ := h j.toNatClampNeg
  simp only [own_el, hz]
def own_ch (vs : List Value) (j : Int32) : Int32 := nar .char ((own_el vs j &&& (255 : Int32)).toUInt32.toUInt16.toUInt32.toInt32)

section OwnW
variable {p : Program} {l : Launch} {e : Env} {R : Room} {s : State} {m : MethodId} {args : Array Value} {below : List Frame} {meth : Method} {c : Code} {T T' : State} {locs : List Loc} {cells slots cc nn : Nat} {f f' : JFrame} {Q : Option Value → Heap → Vm → List Loc → Prop} {Z B : State} {h h' : Heap} {a0 : Array Value}
/-- the same where String constants may have been loaded since the start -/
def own_EndsW (p : Program) (e : Env) (below : List Frame) (s : State) (Q : Option Value → Heap → Vm → List Loc → Prop) (cc nn : Nat) (T : State) (f : JFrame) : Prop :=
  ∃ s₂ o, Steps p.tables e below (T.setTop f) s₂ ∧ s₂.status = .running ∧ Ended s₂ below o ∧ ∃ v L, o = .returned v ∧ Q v s₂.heap s₂.vm L ∧ ReturnedEndW s o s₂ L cc nn
theorem own_goW (k : ∀ t, Steps p.tables e below (T'.setTop f') t → Steps p.tables e below (T.setTop f) t) (h : own_EndsW p e below s Q cc nn T' f') : own_EndsW p e below s Q cc nn T f := by
  obtain ⟨s₂, o, h1, h2⟩ := h
  exact ⟨s₂, o, k _ h1, h2⟩
theorem own_retW {vm₁ : Vm} {n : Nat} (X : Stand p l e R (s.setVm vm₁) m args below meth c T locs cells slots) (hS : s.Since vm₁ n) (hn : n ≤ T.heap.size) {v : Option Value} (hv : meth.sig.returnType = none → v = none) (hlk : meth.locks = false)
    (st : ∀ fs, (∀ (f : JFrame) (acts : List Action), f.method = m → f.locked = none → f.entered = [] → (doReturn e (T.setTop f) acts v).1 = T.setFrames fs) → Steps p.tables e below (T.setTop f) (T.setFrames fs)) (hQ : Q v T.heap T.vm locs) (h1 : cells ≤ cc) (h2 : slots ≤ nn) :
    own_EndsW p e below s Q cc nn T f := by
  obtain ⟨fs, hr, hrun, hended, ⟨ha, hb, hc, hd⟩⟩ := X.leaveW hS hn (v := v) hv hlk
  exact ⟨_, _, st fs hr, hrun, hended, _, _, rfl, hQ, ha, hb, hc, hd.mono h1 h2⟩
theorem own_sm {vm₁ : Vm} {n n' : Nat} (h : s.Since vm₁ n) (hn : n ≤ n') : s.Since vm₁ n' := ⟨h.1, fun j p hj hp => by obtain ⟨x, y⟩ := h.2 j p hj hp; exact ⟨x, Nat.lt_of_lt_of_le y hn⟩⟩
theorem own_ib {Ts : List String} (I : IB Z B.vm Ts) (hB : B.WarmedH s.vm) : IB Z s.vm Ts := by
  obtain ⟨more, h1, h2⟩ := I
  exact ⟨more, by rw [hB.interned_eq]; exact h1, h2⟩
theorem own_backS {y : MethodName} {bytes : ByteArray} {maxL : Nat} {ret : Option FieldType} {rm : Room} {len W : Nat} {as' : Array Value}
    (hM : MetFree l y (head1 [Cond.code y bytes maxL ret] rm) (fun a U => a = as' ∧ Z.Warmed39 U.vm ∧ s.WarmedH U.vm ∧ U.heap = h) (fun _ _ _ _ _ => True) (fun _ U o U' => ∃ v L, o = .returned v ∧ Q v U'.heap U'.vm L ∧ ReturnedEndW U o U' L rm.cells rm.slots))
    (hZ : Z.Warmed39 s.vm) (wc : (Cond.code y bytes maxL ret).before a0 Z = true) (wz : (Cond.initialized y.cls).before a0 Z = true) (hf : rm.frames + 1 ≤ R.frames) (hl : W + (maxL + 11) + rm.locals ≤ R.locals) :
    BackS l R p e below s args y len W (fun A a => a = as' ∧ A.U.heap = h ∧ A.cells + rm.cells ≤ R.cells ∧ A.slots + rm.slots ≤ R.slots)
      (fun A _ v B => ∃ L, Q v B.U.heap B.U.vm L ∧ B.locs = A.locs ++ L ∧ B.cells = A.cells + rm.cells ∧ B.slots = A.slots + rm.slots) :=
  BackS.of_freeW (bytes := bytes) (maxL := maxL) (ret := ret) (E := fun _ _ o t L k n => k = rm.cells ∧ n = rm.slots ∧ ∃ v, o = .returned v ∧ Q v t.heap t.vm L) hM hf hl
    (fun _ _ _ A a Y hp => have hU : Z.Warmed39 A.U.vm := wtrans hZ Y.warmed
      ⟨by show (Cond.and _ .tt).before a A.U = true; rw [Cond.before_and, mv hU wc]; rfl, mv hU wc, mv hU wz, hp.2.2.1, hp.2.2.2⟩)
    (fun _ _ _ _ _ _ _ Y hp => ⟨hp.1, wtrans hZ Y.warmed, Y.warmed, hp.2.1⟩) (fun _ _ _ _ _ _ _ _ _ => trivial)
    (fun _ _ _ _ ⟨v, L, h1, h2, h3⟩ => ⟨L, _, _, h3, rfl, rfl, v, h1, h2⟩)
    (fun _ _ _ _ _ _ _ _ _ L _ _ _ _ _ _ ⟨e1, e2, _, e3, e4⟩ => by cases e3; subst e1 e2; exact ⟨L, e4, rfl, rfl, rfl⟩)
theorem own_backB {y : MethodName} {bytes : ByteArray} {maxL : Nat} {ret : Option FieldType} {rm : Room} {len W : Nat} {as' : Array Value} {Q : Option Value → Heap → List Loc → Prop}
    (hM : MetFree l y (head1 [Cond.code y bytes maxL ret] rm) (fun a U => a = as' ∧ Z.Warmed39 U.vm ∧ s.WarmedH U.vm ∧ U.heap = h) (fun _ _ _ _ _ => True) (fun _ U o U' => ∃ v L, o = .returned v ∧ Q v U'.heap L ∧ FrameEnd U o U' L rm.cells rm.slots))
    (hZ : Z.Warmed39 s.vm) (wc : (Cond.code y bytes maxL ret).before a0 Z = true) (wz : (Cond.initialized y.cls).before a0 Z = true) (hf : rm.frames + 1 ≤ R.frames) (hl : W + (maxL + 11) + rm.locals ≤ R.locals) :
    Back l R p e below s args y len W (fun A a => a = as' ∧ A.U.heap = h ∧ A.cells + rm.cells ≤ R.cells ∧ A.slots + rm.slots ≤ R.slots)
      (fun A _ v B => ∃ L, Q v B.U.heap L ∧ B.locs = A.locs ++ L ∧ B.cells = A.cells + rm.cells ∧ B.slots = A.slots + rm.slots) :=
  Back.of_free (bytes := bytes) (maxL := maxL) (ret := ret) (E := fun _ _ o t L k n => k = rm.cells ∧ n = rm.slots ∧ ∃ v, o = .returned v ∧ Q v t.heap L) hM hf hl
    (fun _ _ _ A a Y hp => have hU : Z.Warmed39 A.U.vm := wtrans hZ Y.warmed
      ⟨by show (Cond.and _ .tt).before a A.U = true; rw [Cond.before_and, mv hU wc]; rfl, mv hU wc, mv hU wz, hp.2.2.1, hp.2.2.2⟩)
    (fun _ _ _ _ _ _ _ Y hp => ⟨hp.1, wtrans hZ Y.warmed, Y.warmed, hp.2.1⟩) (fun _ _ _ _ _ _ _ _ _ => trivial)
    (fun _ _ _ _ ⟨v, L, h1, h2, h3⟩ => ⟨L, _, _, h3, rfl, rfl, v, h1, h2⟩)
    (fun _ _ _ _ _ _ _ _ _ L _ _ _ _ _ _ ⟨e1, e2, _, e3, e4⟩ => by cases e3; subst e1 e2; exact ⟨L, e4, rfl, rfl, rfl⟩)
end OwnW
theorem own_wS {Z : State} {a0 : Array Value} (hw : ∀ d ∈ tables_1, d.before a0 Z = true) : ∀ a ∈ Bundle.stringAtoms, a.before a0 Z = true := by
  intro a ha
  have H := fun (k : Nat) (d : Jvm.Cond) (e : tables_1[k]? = some d) => hw d (List.mem_of_getElem? e)
  simp only [Bundle.stringAtoms, List.mem_cons, List.not_mem_nil, or_false] at ha
  rcases ha with rfl | rfl | rfl | rfl | rfl | rfl | rfl
  all_goals first | exact H 9 _ rfl | exact H 10 _ rfl | exact H 11 _ rfl | exact H 12 _ rfl | exact H 13 _ rfl | exact H 14 _ rfl | exact H 15 _ rfl
theorem own_fr {m n : Nat} {L : List Loc} (N : Fr n L) (h : m ≤ n) : Fr m L := fun y hy => Nat.le_trans h (N y hy)
theorem own_hasV {cl : Cell} {dv : Value} : ∀ (l : List Value) (i : Nat), (∀ k, (hk : k < l.length) → cl.slots[i + k]? = some (l.getD k dv)) → HasL cl i l
  | [], _, _ => trivial
  | x :: l, i, H => ⟨H 0 (Nat.zero_lt_succ _), own_hasV l (i + 1) fun k hk => by have := H (k + 1) (Nat.succ_lt_succ hk); rwa [show i + (k + 1) = i + 1 + k by omega] at this⟩
theorem own_digits {s : State} {args a0 : Array Value} {t : Term} {a : Addr} (hf : Fit s) (ev : t.eval args s none [] s = some (.ref a)) (hex : (Cond.exactly t "[B").before args s = true) (hlen : (Cond.eq (.length t) (.int (100 : Int32))).before args s = true) (hac : (Cond.arrayClass .byte).before a0 s = true) :
    ∃ (k : ClassId) (vs : List Value), Arv s s.heap a k .byte (100 : Int32) vs (.int (0 : Int32)) ∧ own_Ints vs := by
  obtain ⟨a', c', cell, k, e1, e2, e3, e4, e5, rfl, e7⟩ := Cond.exactly_spec hex
  cases ev.symm.trans e1
  obtain ⟨c2, k2, comp, g1, g2, g3⟩ := Cond.arrayClass_spec hac
  have g1' : s.vm.findClass "[B" = some c2 := g1
  cases g1'.symm.trans e2
  obtain ⟨x, y, h1, h2, -, -⟩ := cmp_v (Or.inl (Cond.before_iff.mp hlen))
  obtain ⟨a2, cell2, q1, q2, q3⟩ := Term.length_spec h1
  cases ev.symm.trans q1
  have hk := arrayAt_known q2
  cases e3.symm.trans (arrayAt_spec q2).1
  have A : Arr s s.heap a cell .byte := ⟨e3, ⟨fun j hj => (by rw [hj] at e5; cases e5), k2, g2, comp, g3⟩, hk⟩
  obtain ⟨hsz, hsize⟩ := Jvm.Free.IntBox.length_fwd hlen ev A.1 A.2.1 A.2.2
  have hn : cell.slots.size = 100 := by
    have e : (cell.slots.size.toInt32).toInt = cell.slots.size := len_toInt hsz
    rw [hsize] at e
    have : ((100 : Int32)).toInt = 100 := by decide
    omega
  have hg : ∀ n, n < cell.slots.size → ∃ z, cell.slots[n]? = some (.int z) := fun n hn => by
    obtain ⟨v, h1, h2⟩ := elem_fit (j := Nat.toInt32 n) hf A (idx_in hn hsz)
    obtain ⟨x, rfl⟩ := fit_I h2 (by simp)
    have e1 : (Nat.toInt32 n).toNatClampNeg = n := by simp only [Int32.toNatClampNeg, len_toInt (Nat.lt_trans hn hsz)]; rfl
    rw [e1] at h1
    exact ⟨x, h1⟩
  have hl : ∀ n, cell.slots.toList[n]? = cell.slots[n]? := fun n => Array.getElem?_toList
  refine ⟨cell.cls, cell.slots.toList, Arv.start hf A hsz hsize (by decide) ?_ (own_hasV (dv := .int 0) _ 0 fun n hn => ?_), fun n => ?_⟩
  · show (100 : Int32).toNatClampNeg = cell.slots.toList.length
    rw [Array.length_toList, hn]; rfl
  · rw [Array.length_toList] at hn
    obtain ⟨z, hz⟩ := hg n hn
    rw [Nat.zero_add, hz, List.getD_eq_getElem?_getD, hl, hz]; rfl
  · by_cases q : n < cell.slots.size
    · obtain ⟨z, hz⟩ := hg n q
      exact ⟨z, by rw [List.getD_eq_getElem?_getD, hl, hz]; rfl⟩
    · exact ⟨0, by rw [List.getD_eq_getElem?_getD, hl, Array.getElem?_eq_none (by omega)]; rfl⟩
theorem d2_0 : decode prog_4_method_1_code 0 = .ok (.aload_n 0, 1) := by decide +kernel
theorem d2_1 : decode prog_4_method_1_code 1 = .ok (.invokespecial 3, 3) := by decide +kernel
theorem d2_4 : decode prog_4_method_1_code 4 = .ok (.aload_n 0, 1) := by decide +kernel
theorem d2_5 : decode prog_4_method_1_code 5 = .ok (.iload_n 1, 1) := by decide +kernel
theorem d2_6 : decode prog_4_method_1_code 6 = .ok (.putfield 9, 3) := by decide +kernel
theorem d2_9 : decode prog_4_method_1_code 9 = .ok (.aload_n 0, 1) := by decide +kernel
theorem d2_10 : decode prog_4_method_1_code 10 = .ok (.lload_n 2, 1) := by decide +kernel
theorem d2_11 : decode prog_4_method_1_code 11 = .ok (.putfield 15, 3) := by decide +kernel
theorem d2_14 : decode prog_4_method_1_code 14 = .ok (.aload_n 0, 1) := by decide +kernel
theorem d2_15 : decode prog_4_method_1_code 15 = .ok (.aload 4, 2) := by decide +kernel
theorem d2_17 : decode prog_4_method_1_code 17 = .ok (.putfield 19, 3) := by decide +kernel
theorem d2_20 : decode prog_4_method_1_code 20 = .ok (.return_, 1) := by decide +kernel
theorem pn_0 : plainName "com/example/tally_of_calls/tallyofcalls/Count" = true := by first | (simp [plainName, overriddenIn]; done) | decide +kernel
theorem ef_rm2a1 (m : MethodId) (b1 : Addr) (a2 : Addr) : entryFrame m #[(.ref b1), (.int (0 : Int32)), (.long (9223372036854775807 : Int64)), (.ref a2)] 5 = mkF m 0 #[.val (.ref b1), .val (.int (0 : Int32)), .val (.long (9223372036854775807 : Int64)), .second, .val (.ref a2)] [] := by first | (simp [entryFrame, mkF, argsToLocals, Value.category]; done) | rfl
def Q2a1 (Z : State) (b1 : Addr) (a2 : Addr) (h0 : Heap) (n0 : Nat) (v : Option Value) (h : Heap) (L : List Loc) : Prop := v = none ∧ Fr n0 L ∧ Keep h0 h [b1] ∧ Fld Z h b1 "com/example/tally_of_calls/tallyofcalls/Count" "min" "I" (.int (0 : Int32)) ∧ Fld Z h b1 "com/example/tally_of_calls/tallyofcalls/Count" "max" "J" (.long (9223372036854775807 : Int64)) ∧ Fld Z h b1 "com/example/tally_of_calls/tallyofcalls/Count" "phrase" "Ljava/lang/String;" (.ref a2)
set_option maxRecDepth 65536 in
set_option maxHeartbeats 40000000 in
theorem rm2a1 (l : Launch) (Z : State) (a0 : Array Value) (hw : ∀ d ∈ tables_1, d.before a0 Z = true) (ws : List Jvm.Cond) (b1 : Addr) (a2 : Addr) (h0 : Heap) (n0 : Nat) (Z0 : n0 ≤ h0.size) (PE3 : Exa Z h0 b1 "com/example/tally_of_calls/tallyofcalls/Count") (PF4 : Fld Z h0 b1 "com/example/tally_of_calls/tallyofcalls/Count" "min" "I" (.int (0 : Int32))) (PF5 : Fld Z h0 b1 "com/example/tally_of_calls/tallyofcalls/Count" "max" "J" (.long (0 : Int64))) (PF6 : Fld Z h0 b1 "com/example/tally_of_calls/tallyofcalls/Count" "phrase" "Ljava/lang/String;" .null) (n_b1 : n0 ≤ b1) :
    MetFree l mn0 (head1 (Jvm.Cond.code mn0 prog_4_method_1_code 5 none :: ws) ({ frames := 1, cells := 0, slots := 0, locals := 12 } : Room)) (fun a U => a = #[(.ref b1), (.int (0 : Int32)), (.long (9223372036854775807 : Int64)), (.ref a2)] ∧ Z.Warmed39 U.vm ∧ U.heap = h0) (fun _ _ _ _ _ => True) (fun _ U o U' => ∃ v L, o = .returned v ∧ Q2a1 Z b1 a2 h0 n0 v U'.heap L ∧ FrameEnd U o U' L ({ frames := 1, cells := 0, slots := 0, locals := 12 } : Room).cells ({ frames := 1, cells := 0, slots := 0, locals := 12 } : Room).slots) := by
  refine MetFree.of_bodySF (plainFor_of_name pn_0) hisR ?_
  intro p e s m args below meth c s₁ Bd hml0 hP hK
  obtain ⟨rfl, hZ, hh⟩ := hP
  have hx := Bd.exec
  have hby := Bd.bytes
  have hml : c.maxLocals = 5 := hml0
  have hown : s.vm.findClass "com/example/tally_of_calls/tallyofcalls/Count" = some m.cls := findClass_of_methodNamed Bd.named
  have hnm := (name_of_methodNamed Bd.named Bd.method).1
  have X0 : Stand p l e ({ frames := 1, cells := 0, slots := 0, locals := 12 } : Room) s m #[(.ref b1), (.int (0 : Int32)), (.long (9223372036854775807 : Int64)), (.ref a2)] below meth c s₁ [] 0 0 := Stand.of_body Bd
  have e0 : s₁.heap = h0 := by rw [← hh, Bd.state]; rfl
  have N0 := Fr.nil n0
  show own_Ends p e below s (Q2a1 Z b1 a2 h0 n0) _ _ s₁ _
  rw [ef_rm2a1 m b1 a2]
  refine own_go (T' := s₁) (f' := (mkF m 1 #[.val (.ref b1), .val (.int (0 : Int32)), .val (.long (9223372036854775807 : Int64)), .second, .val (.ref a2)] [(.ref b1)])) (fun _ k => XS.aloadN X0.here hx rfl (hb hby d2_0) rfl rfl k) ?_
  obtain ⟨T3, X3, e3, st3⟩ := initO X0 hx hZ hown (ow19 hw) (ow20 hw) (ow21 hw) e0 (g := (mkF m 1 #[.val (.ref b1), .val (.int (0 : Int32)), .val (.long (9223372036854775807 : Int64)), .second, .val (.ref a2)] [(.ref b1)])) rfl (by rw [hml]; rfl) rfl (hb hby d2_1) (by decide) (W := 0) (by show 2 * 0 + _ ≤ _; exact Nat.le_of_eq rfl) (by decide)
  refine own_go (T' := T3) (f' := (mkF m 6 #[.val (.ref b1), .val (.int (0 : Int32)), .val (.long (9223372036854775807 : Int64)), .second, .val (.ref a2)] [(.int (0 : Int32)), (.ref b1)])) (fun _ k => st3 _ (XS.aloadN X3.here hx rfl (hb hby d2_4) rfl rfl (XS.iloadN X3.here hx rfl (hb hby d2_5) rfl k))) ?_
  obtain ⟨T4, h4, X4, e4, W4, st4⟩ := putF X3 hx hZ hown (host := "") (Or.inl (ow22 hw)) Via.refl e3 PF4 PE3 (Or.inr ⟨(ow23 hw), rfl, hnm⟩) (ow5 hw) (ty := .int) (by decide) rfl rfl (g := (mkF m 6 #[.val (.ref b1), .val (.int (0 : Int32)), .val (.long (9223372036854775807 : Int64)), .second, .val (.ref a2)] [(.int (0 : Int32)), (.ref b1)])) rfl rfl (hb hby d2_6)
  have Fw4 := Fld.same W4 PF4
  have K4 : Keep h0 h4 [b1] := (Keep.refl h0 [b1]).wr W4 (Or.inl (List.mem_of_getElem? (i := 0) rfl))
  have N4 := Fr.snoc X4 N0 n_b1
  refine own_go (T' := T4) (f' := (mkF m 11 #[.val (.ref b1), .val (.int (0 : Int32)), .val (.long (9223372036854775807 : Int64)), .second, .val (.ref a2)] [(.long (9223372036854775807 : Int64)), (.ref b1)])) (fun _ k => st4 _ (XS.aloadN X4.here hx rfl (hb hby d2_9) rfl rfl (XS.lloadN X4.here hx rfl (hb hby d2_10) rfl k))) ?_
  have G5 := (PF5.other W4 (Or.inr (slot_ne (Or.inr (ow25 hw)) (Or.inr (ow23 hw)) (by decide) (t := .long) (t' := .int) (by decide) (by decide))))
  obtain ⟨T6, h6, X6, e6, W6, st6⟩ := putF X4 hx hZ hown (host := "") (Or.inl (ow24 hw)) Via.refl e4 G5 (PE3.wr W4) (Or.inr ⟨(ow25 hw), rfl, hnm⟩) (ow5 hw) (ty := .long) (by decide) rfl rfl (g := (mkF m 11 #[.val (.ref b1), .val (.int (0 : Int32)), .val (.long (9223372036854775807 : Int64)), .second, .val (.ref a2)] [(.long (9223372036854775807 : Int64)), (.ref b1)])) rfl rfl (hb hby d2_11)
  have Fw6 := Fld.same W6 G5
  have K6 : Keep h0 h6 [b1] := K4.wr W6 (Or.inl (List.mem_of_getElem? (i := 0) rfl))
  have N6 := Fr.snoc X6 N4 n_b1
  refine own_go (T' := T6) (f' := (mkF m 17 #[.val (.ref b1), .val (.int (0 : Int32)), .val (.long (9223372036854775807 : Int64)), .second, .val (.ref a2)] [(.ref a2), (.ref b1)])) (fun _ k => st6 _ (XS.aloadN X6.here hx rfl (hb hby d2_14) rfl rfl (XS.aload X6.here hx rfl (hb hby d2_15) rfl rfl k))) ?_
  have G7 := ((PF6.other W4 (Or.inr (slot_ne (Or.inr (ow27 hw)) (Or.inr (ow23 hw)) (by decide) (t := (.object "java/lang/String")) (t' := .int) (by decide) (by decide)))).other W6 (Or.inr (slot_ne (Or.inr (ow27 hw)) (Or.inr (ow25 hw)) (by decide) (t := (.object "java/lang/String")) (t' := .long) (by decide) (by decide))))
  obtain ⟨T8, h8, X8, e8, W8, st8⟩ := putF X6 hx hZ hown (host := "") (Or.inl (ow26 hw)) Via.refl e6 G7 ((PE3.wr W4).wr W6) (Or.inr ⟨(ow27 hw), rfl, hnm⟩) (ow5 hw) (ty := (.object "java/lang/String")) (by decide) rfl rfl (g := (mkF m 17 #[.val (.ref b1), .val (.int (0 : Int32)), .val (.long (9223372036854775807 : Int64)), .second, .val (.ref a2)] [(.ref a2), (.ref b1)])) rfl rfl (hb hby d2_17)
  have Fw8 := Fld.same W8 G7
  have K8 : Keep h0 h8 [b1] := K6.wr W8 (Or.inl (List.mem_of_getElem? (i := 0) rfl))
  have N8 := Fr.snoc X8 N6 n_b1
  refine own_go (T' := T8) (f' := (mkF m 20 #[.val (.ref b1), .val (.int (0 : Int32)), .val (.long (9223372036854775807 : Int64)), .second, .val (.ref a2)] [])) (fun _ k => st8 _ k) ?_
  refine own_ret X8 (v := none) (fun _ => rfl) Bd.notSynchronized (fun fs hr => X8.returnOut hx Bd.returns (hb hby d2_20) hr) ?_ (by decide) (by decide)
  show Q2a1 Z b1 a2 h0 n0 _ T8.heap _
  have G9 := ((Fw4.other W6 (Or.inr (slot_ne (Or.inr (ow23 hw)) (Or.inr (ow25 hw)) (by decide) (t := .int) (t' := .long) (by decide) (by decide)))).other W8 (Or.inr (slot_ne (Or.inr (ow23 hw)) (Or.inr (ow27 hw)) (by decide) (t := .int) (t' := (.object "java/lang/String")) (by decide) (by decide))))
  have G10 := (Fw6.other W8 (Or.inr (slot_ne (Or.inr (ow25 hw)) (Or.inr (ow27 hw)) (by decide) (t := .long) (t' := (.object "java/lang/String")) (by decide) (by decide))))
  rw [e8]
  exact ⟨rfl, N8, K8, G9, G10, Fw8⟩
theorem pd17 : parseMethodDescriptor "(IJLjava/lang/String;)V" = some ⟨[.int, .long, (.object "java/lang/String")], none⟩ := by decide +kernel
theorem d1_0 : decode prog_5_method_7_code 0 = .ok (.new 35, 3) := by decide +kernel
theorem d1_3 : decode prog_5_method_7_code 3 = .ok (.dup, 1) := by decide +kernel
theorem d1_4 : decode prog_5_method_7_code 4 = .ok (.iconst 0, 1) := by decide +kernel
theorem d1_5 : decode prog_5_method_7_code 5 = .ok (.ldc2_w 46, 3) := by decide +kernel
theorem d1_8 : decode prog_5_method_7_code 8 = .ok (.ldc 69, 2) := by decide +kernel
theorem d1_10 : decode prog_5_method_7_code 10 = .ok (.invokespecial 41, 3) := by decide +kernel
theorem d1_13 : decode prog_5_method_7_code 13 = .ok (.areturn, 1) := by decide +kernel
theorem pn_1 : plainName "com/example/tally_of_calls/tallyofcalls/Counts" = true := by first | (simp [plainName, overriddenIn]; done) | decide +kernel
theorem ef_rm1 (m : MethodId)  : entryFrame m #[] 0 = mkF m 0 #[] [] := by first | (simp [entryFrame, mkF, argsToLocals, Value.category]; done) | rfl
def Q1 (Z : State) (B : State) (cs : Int32) (wd : Addr) (kd : ClassId) (vd : List Value) (h0 : Heap) (n0 : Nat) (v : Option Value) (h : Heap) (vm : Vm) (L : List Loc) : Prop := ∃ (c a b : Addr) (k : ClassId), v = some (.ref c) ∧ Fr n0 L ∧ Keep h0 h [] ∧ n0 ≤ c ∧ h0.size ≤ c ∧ IB Z vm ["allowed any number"] ∧ Exa Z h c "com/example/tally_of_calls/tallyofcalls/Count" ∧ Fld Z h c "com/example/tally_of_calls/tallyofcalls/Count" "min" "I" (.int (0 : Int32)) ∧ Fld Z h c "com/example/tally_of_calls/tallyofcalls/Count" "max" "J" (.long (9223372036854775807 : Int64)) ∧ Fld Z h c "com/example/tally_of_calls/tallyofcalls/Count" "phrase" "Ljava/lang/String;" (.ref a) ∧ Exa Z h a "java/lang/String" ∧ Fld Z h a "java/lang/String" "coder" "B" (.int (0 : Int32)) ∧ Fld Z h a "java/lang/String" "value" "[B" (.ref b) ∧ Arv Z h b k .byte (18 : Int32) own_ls0 (.int (0 : Int32))
set_option maxRecDepth 65536 in
set_option maxHeartbeats 40000000 in
theorem rm1 (l : Launch) (Z : State) (a0 : Array Value) (hw : ∀ d ∈ tables_1, d.before a0 Z = true) (ws : List Jvm.Cond) (B : State) (cs : Int32) (wd : Addr) (kd : ClassId) (vd : List Value) (h0 : Heap) (n0 : Nat) (Z0 : n0 ≤ h0.size) (S_cs : Sta Z h0 "java/lang/String" "COMPACT_STRINGS" "Z" (.int cs)) (hcs : ¬ (cs = (0 : Int32))) (S_do : Sta Z h0 "java/lang/Integer" "DigitOnes" "[B" (.ref wd)) (V_do : Arv Z h0 wd kd .byte (100 : Int32) vd (.int (0 : Int32))) (hvd : own_Ints vd) (I0 : IB Z B.vm []) (hk0 : ∀ (b : Addr) (cl : Cell), Z.heap[b]? = some cl → h0[b]? = some cl) (hcw : Jvm.Lit.compactW.before a0 Z = true) (hhl : Jvm.Lit.constHeld Z "com/example/tally_of_calls/tallyofcalls/Counts" 69) (hn0 : n0 = h0.size) :
    MetFree l mn1 (head1 (Jvm.Cond.code mn1 prog_5_method_7_code 0 (some (.object "com/example/tally_of_calls/tallyofcalls/Count")) :: ws) ({ frames := 2, cells := 3, slots := 79, locals := 29 } : Room)) (fun a U => a = #[] ∧ Z.Warmed39 U.vm ∧ B.WarmedH U.vm ∧ U.heap = h0) (fun _ _ _ _ _ => True) (fun _ U o U' => ∃ v L, o = .returned v ∧ Q1 Z B cs wd kd vd h0 n0 v U'.heap U'.vm L ∧ ReturnedEndW U o U' L ({ frames := 2, cells := 3, slots := 79, locals := 29 } : Room).cells ({ frames := 2, cells := 3, slots := 79, locals := 29 } : Room).slots) := by
  refine MetFree.of_bodySF (plainFor_of_name pn_1) hisR ?_
  intro p e s m args below meth c s₁ Bd hml0 hP hK
  obtain ⟨rfl, hZ, hB, hh⟩ := hP
  have hx := Bd.exec
  have hby := Bd.bytes
  have hml : c.maxLocals = 0 := hml0
  have hown : s.vm.findClass "com/example/tally_of_calls/tallyofcalls/Counts" = some m.cls := findClass_of_methodNamed Bd.named
  have hnm := (name_of_methodNamed Bd.named Bd.method).1
  have X0 : Stand p l e ({ frames := 2, cells := 3, slots := 79, locals := 29 } : Room) (s.setVm s.vm) m #[] below meth c s₁ [] 0 0 := Stand.of_body Bd
  have e0 : s₁.heap = h0 := by rw [← hh, Bd.state]; rfl
  have N0 := Fr.nil n0
  have hS : s.Since s.vm h0.size := (State.WarmedH.refl s).since _
  show own_EndsW p e below s (Q1 Z B cs wd kd vd h0 n0) _ _ s₁ _
  rw [ef_rm1 m ]
  have I1 := own_ib I0 hB
  have hkeep : ∀ (b : Addr) (cl : Cell), Z.heap[b]? = some cl → s.heap[b]? = some cl := by rw [hh]; exact hk0
  obtain ⟨T1, h1, X1, e1, E1, A1, D1, -, st1⟩ := newO X0 hx hZ hown (ow4 hw) (ow5 hw) (ow6 hw) e0 (g := (mkF m 0 #[] [])) rfl (hb hby d1_0) (by decide) (by decide)
  obtain ⟨b1, g_b1⟩ : ∃ z, z = h0.size := ⟨_, rfl⟩
  have sg_b1 : h0.size ≤ b1 := Nat.le_of_eq g_b1.symm
  rw [← g_b1] at A1 D1 st1
  have n_b1 : n0 ≤ b1 := Nat.le_trans Z0 (Nat.le_of_eq g_b1.symm)
  have sz_b1 : h0.size ≤ b1 := Nat.le_trans (Keep.refl h0 []).1 (Nat.le_of_eq g_b1.symm)
  have K1 : Keep h0 h1 [] := (Keep.refl h0 []).ext E1
  have F_min_b1 : Fld Z h1 b1 "com/example/tally_of_calls/tallyofcalls/Count" "min" "I" (.int (0 : Int32)) := D1 (Or.inr (ow23 hw)) (ty := .int) (by decide)
  have F_max_b1 : Fld Z h1 b1 "com/example/tally_of_calls/tallyofcalls/Count" "max" "J" (.long (0 : Int64)) := D1 (Or.inr (ow25 hw)) (ty := .long) (by decide)
  have F_phrase_b1 : Fld Z h1 b1 "com/example/tally_of_calls/tallyofcalls/Count" "phrase" "Ljava/lang/String;" .null := D1 (Or.inr (ow27 hw)) (ty := (.object "java/lang/String")) (by decide)
  refine own_goW (T' := T1) (f' := (mkF m 8 #[] [(.long (9223372036854775807 : Int64)), (.int (0 : Int32)), (.ref b1), (.ref b1)])) (fun _ k => st1 _ (XS.dup X1.here hx rfl (hb hby d1_3) rfl rfl (XS.iconst X1.here hx rfl (hb hby d1_4) (X1.ldc2Long hx hown (mvT hZ (ow7 hw)) (g := (mkF m 5 #[] [(.int (0 : Int32)), (.ref b1), (.ref b1)])) rfl (hb hby d1_5) _ k)))) ?_
  obtain ⟨a2, T2, h2, k1_2, b2, kc2, X2, e2, E2, hS2, hk2, -, -, gE2, gC2, gV2, gA2, -, -, IB2, Lt2, st2⟩ := ldcSVL (Z := Z) (s := (s.setVm s.vm)) (vm0 := s.vm) X1 hx hZ hown (ow8 hw) (own_wS hw) e1 ((State.WarmedH.refl (s.setVm s.vm)).since 0) (Nat.zero_le _) (by show Fr s.heap.size _; rw [hh, ← hn0]; exact N0) hkeep I1 (by decide) hhl hcw (vs := own_lit0) (z := (18 : Int32)) own_lit0_ok (by decide) own_lit0_len (g := (mkF m 8 #[] [(.long (9223372036854775807 : Int64)), (.int (0 : Int32)), (.ref b1), (.ref b1)])) rfl (hb hby d1_8) (n := 72) (by decide) (by decide) (by decide) (by decide)
  have hM2 := own_sm hS2 hk2
  obtain ⟨X2, hS, hZ, hown⟩ := rebS hS (Nat.le_trans (Nat.le_refl _) E1.1) X2 hM2 E2.1 hZ hown
  have K2 : Keep h0 h2 [] := K1.ext E2
  refine own_goW (T' := T2) (f' := (mkF m 10 #[] [(.ref a2), (.long (9223372036854775807 : Int64)), (.int (0 : Int32)), (.ref b1), (.ref b1)])) (fun _ k => st2 _ k) ?_
  obtain ⟨_, _, ⟨T11, L11, k11, n11⟩, -, X11, ⟨Lc11, hQ11, l11, y11, z11⟩, st11⟩ := X2.specialBack hx (y := mn0) rfl hown (mvT hZ (ow16 hw)) (mvT hZ (ow17 hw)) (mvT hZ (ow18 hw)) (by decide) (backOf (W := 1) (rm2a1 l Z a0 hw [] b1 a2 h2 n0 (Nat.le_trans (Nat.le_trans Z0 E1.1) E2.1) (A1.ext E2) (F_min_b1.ext E2) (F_max_b1.ext E2) (F_phrase_b1.ext E2) n_b1) hZ (ow18 hw) (ow6 hw) (by decide) (by decide)) (g := (mkF m 10 #[] [(.ref a2), (.long (9223372036854775807 : Int64)), (.int (0 : Int32)), (.ref b1), (.ref b1)])) rfl (by rw [hml]; rfl) (Steps.refl _) (a := b1) (argsL := [(.int (0 : Int32)), (.long (9223372036854775807 : Int64)), (.ref a2)]) (rest := [(.ref b1)]) (lenOf pd17 rfl) rfl (by show 2 * 0 + _ ≤ _; exact Nat.le_of_eq rfl) (hb hby d1_10) (fun _ _ => ⟨rfl, e2, (by decide : 3 + 0 ≤ _), (by decide : 79 + 0 ≤ _)⟩)
  dsimp only [Pt.U, Pt.locs, Pt.cells, Pt.slots] at X11 l11 y11 z11 st11 hQ11
  subst l11 y11 z11
  obtain ⟨rfl, N11q, K11, g11_0, g11_1, g11_2⟩ := hQ11
  have N11 := Fr.app N0 N11q
  have eK11 : T11.heap = T11.heap := rfl
  have KK11 : Keep h0 T11.heap [] := Keep.trans K2 K11 (allS (Or.inr sz_b1) all0)
  refine own_goW (T' := T11) (f' := (mkF m 13 #[] [(.ref b1)])) (fun _ k => st11.trans k) ?_
  refine own_retW X11 hS (by rw [eK11]; exact (Nat.le_trans (Nat.le_refl _) K11.1)) (v := some (.ref b1)) (fun h => by rw [Bd.returns] at h; cases h) Bd.notSynchronized (fun fs hr => own_retA X11 hx Bd.returns rfl rfl (hb hby d1_13) hr) ?_ (by decide) (by decide)
  show Q1 Z B cs wd kd vd h0 n0 _ T11.heap T11.vm _
  rw [eK11]
  exact ⟨b1, a2, b2, _, rfl, N11, KK11, n_b1, sz_b1, own_ib (B := s.setVm T2.vm) IB2 X11.warmed, ((A1.ext E2).keep K11), g11_0, g11_1, g11_2, (gE2.keep K11), (gC2.keep K11 (ninS (own_exa_ne gE2 (A1.ext E2) (by decide)) nin0)), (gV2.keep K11 (ninS (own_exa_ne gE2 (A1.ext E2) (by decide)) nin0)), (gA2.keep K11 (ninS (Ne.symm (Exa.neArv (A1.ext E2) gA2 (ow5 hw))) nin0))⟩
theorem d6_0 : decode jdk_68_method_2_code 0 = .ok (.aload_n 0, 1) := by decide +kernel
theorem d6_1 : decode jdk_68_method_2_code 1 = .ok (.invokespecial 3, 3) := by decide +kernel
theorem d6_4 : decode jdk_68_method_2_code 4 = .ok (.getstatic 18, 3) := by decide +kernel
theorem d6_7 : decode jdk_68_method_2_code 7 = .ok (.ifCond .eq 18, 3) := by decide +kernel
theorem d6_10 : decode jdk_68_method_2_code 10 = .ok (.aload_n 0, 1) := by decide +kernel
theorem d6_11 : decode jdk_68_method_2_code 11 = .ok (.iload_n 1, 1) := by decide +kernel
theorem d6_12 : decode jdk_68_method_2_code 12 = .ok (.newarray .byte, 2) := by decide +kernel
theorem d6_14 : decode jdk_68_method_2_code 14 = .ok (.putfield 15, 3) := by decide +kernel
theorem d6_17 : decode jdk_68_method_2_code 17 = .ok (.aload_n 0, 1) := by decide +kernel
theorem d6_18 : decode jdk_68_method_2_code 18 = .ok (.iconst 0, 1) := by decide +kernel
theorem d6_19 : decode jdk_68_method_2_code 19 = .ok (.putfield 22, 3) := by decide +kernel
theorem d6_22 : decode jdk_68_method_2_code 22 = .ok (.goto 16, 3) := by decide +kernel
theorem d6_38 : decode jdk_68_method_2_code 38 = .ok (.return_, 1) := by decide +kernel
theorem pn_3 : plainName "java/lang/AbstractStringBuilder" = true := by first | (simp [plainName, overriddenIn]; done) | decide +kernel
theorem ef_rm6a3 (m : MethodId) (b2 : Addr) : entryFrame m #[(.ref b2), (.int (16 : Int32))] 2 = mkF m 0 #[.val (.ref b2), .val (.int (16 : Int32))] [] := by first | (simp [entryFrame, mkF, argsToLocals, Value.category]; done) | rfl
def Q6a3 (Z : State) (b2 : Addr) (cs : Int32) (h0 : Heap) (n0 : Nat) (v : Option Value) (h : Heap) (L : List Loc) : Prop := ∃ (b5 : Addr) (k5 : ClassId), v = none ∧ Fr n0 L ∧ Keep h0 h [b2] ∧ n0 ≤ b5 ∧ h0.size ≤ b5 ∧ Fld Z h b2 "java/lang/AbstractStringBuilder" "value" "[B" (.ref b5) ∧ Fld Z h b2 "java/lang/AbstractStringBuilder" "coder" "B" (.int (0 : Int32)) ∧ Fld Z h b2 "java/lang/AbstractStringBuilder" "count" "I" (.int (0 : Int32)) ∧ Arv Z h b5 k5 .byte (16 : Int32) own_ls1 (.int (0 : Int32))
set_option maxRecDepth 65536 in
set_option maxHeartbeats 40000000 in
theorem rm6a3 (l : Launch) (Z : State) (a0 : Array Value) (hw : ∀ d ∈ tables_1, d.before a0 Z = true) (ws : List Jvm.Cond) (b2 : Addr) (cs : Int32) (h0 : Heap) (n0 : Nat) (Z0 : n0 ≤ h0.size) (PS0 : Sta Z h0 "java/lang/String" "COMPACT_STRINGS" "Z" (.int cs)) (PE7 : Exa Z h0 b2 "java/lang/StringBuilder") (PF8 : Fld Z h0 b2 "java/lang/AbstractStringBuilder" "value" "[B" .null) (PF9 : Fld Z h0 b2 "java/lang/AbstractStringBuilder" "coder" "B" (.int (0 : Int32))) (PF10 : Fld Z h0 b2 "java/lang/AbstractStringBuilder" "count" "I" (.int (0 : Int32))) (PP0 : ¬ (cs = (0 : Int32))) (n_b2 : n0 ≤ b2) :
    MetFree l mn2 (head1 (Jvm.Cond.code mn2 jdk_68_method_2_code 2 none :: ws) ({ frames := 1, cells := 1, slots := 16, locals := 12 } : Room)) (fun a U => a = #[(.ref b2), (.int (16 : Int32))] ∧ Z.Warmed39 U.vm ∧ U.heap = h0) (fun _ _ _ _ _ => True) (fun _ U o U' => ∃ v L, o = .returned v ∧ Q6a3 Z b2 cs h0 n0 v U'.heap L ∧ FrameEnd U o U' L ({ frames := 1, cells := 1, slots := 16, locals := 12 } : Room).cells ({ frames := 1, cells := 1, slots := 16, locals := 12 } : Room).slots) := by
  refine MetFree.of_bodySF (plainFor_of_name pn_3) hisR ?_
  intro p e s m args below meth c s₁ Bd hml0 hP hK
  obtain ⟨rfl, hZ, hh⟩ := hP
  have hx := Bd.exec
  have hby := Bd.bytes
  have hml : c.maxLocals = 2 := hml0
  have hown : s.vm.findClass "java/lang/AbstractStringBuilder" = some m.cls := findClass_of_methodNamed Bd.named
  have hnm := (name_of_methodNamed Bd.named Bd.method).1
  have X0 : Stand p l e ({ frames := 1, cells := 1, slots := 16, locals := 12 } : Room) s m #[(.ref b2), (.int (16 : Int32))] below meth c s₁ [] 0 0 := Stand.of_body Bd
  have e0 : s₁.heap = h0 := by rw [← hh, Bd.state]; rfl
  have N0 := Fr.nil n0
  show own_Ends p e below s (Q6a3 Z b2 cs h0 n0) _ _ s₁ _
  rw [ef_rm6a3 m b2]
  refine own_go (T' := s₁) (f' := (mkF m 1 #[.val (.ref b2), .val (.int (16 : Int32))] [(.ref b2)])) (fun _ k => XS.aloadN X0.here hx rfl (hb hby d6_0) rfl rfl k) ?_
  obtain ⟨T3, X3, e3, st3⟩ := initO X0 hx hZ hown (ow43 hw) (ow20 hw) (ow21 hw) e0 (g := (mkF m 1 #[.val (.ref b2), .val (.int (16 : Int32))] [(.ref b2)])) rfl (by rw [hml]; rfl) rfl (hb hby d6_1) (by decide) (W := 0) (by show 2 * 0 + _ ≤ _; exact Nat.le_of_eq rfl) (by decide)
  refine own_go (T' := T3) (f' := (mkF m 4 #[.val (.ref b2), .val (.int (16 : Int32))] [])) (fun _ k => st3 _ k) ?_
  obtain ⟨T4, X4, e4, st4⟩ := getS2 X3 hx hZ hown (host := "") (Or.inl (ow44 hw)) Via.refl e3 PS0 (g := (mkF m 4 #[.val (.ref b2), .val (.int (16 : Int32))] [])) rfl (hb hby d6_4)
  refine own_go (T' := T4) (f' := (mkF m 12 #[.val (.ref b2), .val (.int (16 : Int32))] [(.int (16 : Int32)), (.ref b2)])) (fun _ k => st4 _ (XS.ifNo X4.here hx rfl (hb hby d6_7) rfl ((if0 _ _).trans (feq PP0).1) (XS.aloadN X4.here hx rfl (hb hby d6_10) rfl rfl (XS.iloadN X4.here hx rfl (hb hby d6_11) rfl k)))) ?_
  obtain ⟨T5, h5, k5, X5, e5, E5, A5, st5⟩ := newP (aty := .byte) X4 hx hZ (ow11 hw) e4 (g := (mkF m 12 #[.val (.ref b2), .val (.int (16 : Int32))] [(.int (16 : Int32)), (.ref b2)])) rfl (hb hby d6_12) rfl (by decide) (cap := 16) (by decide) (by decide) (by decide) (by decide)
  obtain ⟨b5, g_b5⟩ : ∃ z, z = h0.size := ⟨_, rfl⟩
  have sg_b5 : h0.size ≤ b5 := Nat.le_of_eq g_b5.symm
  rw [← g_b5] at A5 st5
  have n_b5 : n0 ≤ b5 := Nat.le_trans Z0 (Nat.le_of_eq g_b5.symm)
  have sz_b5 : h0.size ≤ b5 := Nat.le_trans (Keep.refl h0 [b2]).1 (Nat.le_of_eq g_b5.symm)
  have K5 : Keep h0 h5 [b2] := (Keep.refl h0 [b2]).ext E5
  have V_b5 : Arv Z h5 b5 k5 .byte (16 : Int32) own_ls1 (.int (0 : Int32)) := (Arv.new A5 (by decide)).pad (pad_rep [] (.int (0 : Int32)) 16)
  refine own_go (T' := T5) (f' := (mkF m 14 #[.val (.ref b2), .val (.int (16 : Int32))] [(.ref b5), (.ref b2)])) (fun _ k => st5 _ k) ?_
  obtain ⟨T6, h6, X6, e6, W6, st6⟩ := putF X5 hx hZ hown (host := "") (Or.inl (ow45 hw)) Via.refl e5 (PF8.ext E5) (PE7.ext E5) (Or.inl (ow46 hw)) (ow32 hw) (ty := (.array .byte)) (by decide) rfl rfl (g := (mkF m 14 #[.val (.ref b2), .val (.int (16 : Int32))] [(.ref b5), (.ref b2)])) rfl rfl (hb hby d6_14)
  have Fw6 := Fld.same W6 (PF8.ext E5)
  have K6 : Keep h0 h6 [b2] := K5.wr W6 (Or.inl (List.mem_of_getElem? (i := 0) rfl))
  have N6 := Fr.snoc X6 N0 n_b2
  refine own_go (T' := T6) (f' := (mkF m 19 #[.val (.ref b2), .val (.int (16 : Int32))] [(.int (0 : Int32)), (.ref b2)])) (fun _ k => st6 _ (XS.aloadN X6.here hx rfl (hb hby d6_17) rfl rfl (XS.iconst X6.here hx rfl (hb hby d6_18) k))) ?_
  have G7 := ((PF9.ext E5).other W6 (Or.inr (slot_ne (Or.inl (ow48 hw)) (Or.inl (ow46 hw)) (by decide) (t := .byte) (t' := (.array .byte)) (by decide) (by decide))))
  obtain ⟨T8, h8, X8, e8, W8, st8⟩ := putFN X6 hx hZ hown (ow47 hw) Via.refl e6 G7 ((PE7.ext E5).wr W6) (Or.inl (ow48 hw)) (ow32 hw) (ty := .byte) (v' := (.int (0 : Int32))) (by decide) rfl (fits_nar_byte (0 : Int32)) (g := (mkF m 19 #[.val (.ref b2), .val (.int (16 : Int32))] [(.int (0 : Int32)), (.ref b2)])) rfl rfl (hb hby d6_19)
  have Fw8 := Fld.same W8 G7
  have K8 : Keep h0 h8 [b2] := K6.wr W8 (Or.inl (List.mem_of_getElem? (i := 0) rfl))
  have N8 := Fr.snoc X8 N6 n_b2
  refine own_go (T' := T8) (f' := (mkF m 38 #[.val (.ref b2), .val (.int (16 : Int32))] [])) (fun _ k => st8 _ (XS.goto X8.here hx rfl (pc0 := 22) (pc' := 38) rfl (hb hby d6_22) (by decide) (by decide) k)) ?_
  refine own_ret X8 (v := none) (fun _ => rfl) Bd.notSynchronized (fun fs hr => X8.returnOut hx Bd.returns (hb hby d6_38) hr) ?_ (by decide) (by decide)
  show Q6a3 Z b2 cs h0 n0 _ T8.heap _
  have G9 := (Fw6.other W8 (Or.inr (slot_ne (Or.inl (ow46 hw)) (Or.inl (ow48 hw)) (by decide) (t := (.array .byte)) (t' := .byte) (by decide) (by decide))))
  have G10 := (((PF10.ext E5).other W6 (Or.inr (slot_ne (Or.inl (ow74 hw)) (Or.inl (ow46 hw)) (by decide) (t := .int) (t' := (.array .byte)) (by decide) (by decide)))).other W8 (Or.inr (slot_ne (Or.inl (ow74 hw)) (Or.inl (ow48 hw)) (by decide) (t := .int) (t' := .byte) (by decide) (by decide))))
  have G11 := ((V_b5.other W6 (Ne.symm (Nat.ne_of_lt (Nat.lt_of_lt_of_le PE7.lt sg_b5)))).other W8 (Ne.symm (Nat.ne_of_lt (Nat.lt_of_lt_of_le PE7.lt sg_b5))))
  rw [e8]
  exact ⟨b5, k5, rfl, N8, K8, n_b5, sz_b5, G9, Fw8, G10, G11⟩
theorem pd12 : parseMethodDescriptor "(I)V" = some ⟨[.int], none⟩ := by decide +kernel
theorem d5_0 : decode jdk_67_method_1_code 0 = .ok (.aload_n 0, 1) := by decide +kernel
theorem d5_1 : decode jdk_67_method_1_code 1 = .ok (.bipush 16, 2) := by decide +kernel
theorem d5_3 : decode jdk_67_method_1_code 3 = .ok (.invokespecial 1, 3) := by decide +kernel
theorem d5_6 : decode jdk_67_method_1_code 6 = .ok (.return_, 1) := by decide +kernel
theorem pn_8 : plainName "java/lang/StringBuilder" = true := by first | (simp [plainName, overriddenIn]; done) | decide +kernel
theorem ef_rm5a2 (m : MethodId) (b2 : Addr) : entryFrame m #[(.ref b2)] 1 = mkF m 0 #[.val (.ref b2)] [] := by first | (simp [entryFrame, mkF, argsToLocals, Value.category]; done) | rfl
def Q5a2 (Z : State) (b2 : Addr) (cs : Int32) (h0 : Heap) (n0 : Nat) (v : Option Value) (h : Heap) (L : List Loc) : Prop := ∃ (b12a : Addr) (k12b : ClassId), v = none ∧ Fr n0 L ∧ Keep h0 h [b2] ∧ n0 ≤ b12a ∧ h0.size ≤ b12a ∧ Fld Z h b2 "java/lang/AbstractStringBuilder" "value" "[B" (.ref b12a) ∧ Fld Z h b2 "java/lang/AbstractStringBuilder" "coder" "B" (.int (0 : Int32)) ∧ Fld Z h b2 "java/lang/AbstractStringBuilder" "count" "I" (.int (0 : Int32)) ∧ Arv Z h b12a k12b .byte (16 : Int32) own_ls1 (.int (0 : Int32))
set_option maxRecDepth 65536 in
set_option maxHeartbeats 40000000 in
theorem rm5a2 (l : Launch) (Z : State) (a0 : Array Value) (hw : ∀ d ∈ tables_1, d.before a0 Z = true) (ws : List Jvm.Cond) (b2 : Addr) (cs : Int32) (h0 : Heap) (n0 : Nat) (Z0 : n0 ≤ h0.size) (PS0 : Sta Z h0 "java/lang/String" "COMPACT_STRINGS" "Z" (.int cs)) (PE7 : Exa Z h0 b2 "java/lang/StringBuilder") (PF8 : Fld Z h0 b2 "java/lang/AbstractStringBuilder" "value" "[B" .null) (PF9 : Fld Z h0 b2 "java/lang/AbstractStringBuilder" "coder" "B" (.int (0 : Int32))) (PF10 : Fld Z h0 b2 "java/lang/AbstractStringBuilder" "count" "I" (.int (0 : Int32))) (PP0 : ¬ (cs = (0 : Int32))) (n_b2 : n0 ≤ b2) :
    MetFree l mn3 (head1 (Jvm.Cond.code mn3 jdk_67_method_1_code 1 none :: ws) ({ frames := 2, cells := 1, slots := 16, locals := 25 } : Room)) (fun a U => a = #[(.ref b2)] ∧ Z.Warmed39 U.vm ∧ U.heap = h0) (fun _ _ _ _ _ => True) (fun _ U o U' => ∃ v L, o = .returned v ∧ Q5a2 Z b2 cs h0 n0 v U'.heap L ∧ FrameEnd U o U' L ({ frames := 2, cells := 1, slots := 16, locals := 25 } : Room).cells ({ frames := 2, cells := 1, slots := 16, locals := 25 } : Room).slots) := by
  refine MetFree.of_bodySF (plainFor_of_name pn_8) hisR ?_
  intro p e s m args below meth c s₁ Bd hml0 hP hK
  obtain ⟨rfl, hZ, hh⟩ := hP
  have hx := Bd.exec
  have hby := Bd.bytes
  have hml : c.maxLocals = 1 := hml0
  have hown : s.vm.findClass "java/lang/StringBuilder" = some m.cls := findClass_of_methodNamed Bd.named
  have hnm := (name_of_methodNamed Bd.named Bd.method).1
  have X0 : Stand p l e ({ frames := 2, cells := 1, slots := 16, locals := 25 } : Room) s m #[(.ref b2)] below meth c s₁ [] 0 0 := Stand.of_body Bd
  have e0 : s₁.heap = h0 := by rw [← hh, Bd.state]; rfl
  have N0 := Fr.nil n0
  show own_Ends p e below s (Q5a2 Z b2 cs h0 n0) _ _ s₁ _
  rw [ef_rm5a2 m b2]
  refine own_go (T' := s₁) (f' := (mkF m 3 #[.val (.ref b2)] [(.int (16 : Int32)), (.ref b2)])) (fun _ k => XS.aloadN X0.here hx rfl (hb hby d5_0) rfl rfl (XS.bipush X0.here hx rfl (hb hby d5_1) k)) ?_
  obtain ⟨_, _, ⟨T12, L12, k12, n12⟩, -, X12, ⟨Lc12, hQ12, l12, y12, z12⟩, st12⟩ := X0.specialBack hx (y := mn2) rfl hown (mvT hZ (ow37 hw)) (mvT hZ (ow38 hw)) (mvT hZ (ow42 hw)) (by decide) (backOf (W := 0) (rm6a3 l Z a0 hw [] b2 cs h0 n0 Z0 PS0 PE7 PF8 PF9 PF10 PP0 n_b2) hZ (ow42 hw) (ow41 hw) (by decide) (by decide)) (g := (mkF m 3 #[.val (.ref b2)] [(.int (16 : Int32)), (.ref b2)])) rfl (by rw [hml]; rfl) (Steps.refl _) (a := b2) (argsL := [(.int (16 : Int32))]) (rest := []) (lenOf pd12 rfl) rfl (by show 2 * 0 + _ ≤ _; exact Nat.le_of_eq rfl) (hb hby d5_3) (fun _ _ => ⟨rfl, e0, (by decide : 0 + 1 ≤ _), (by decide : 0 + 16 ≤ _)⟩)
  dsimp only [Pt.U, Pt.locs, Pt.cells, Pt.slots] at X12 l12 y12 z12 st12 hQ12
  subst l12 y12 z12
  obtain ⟨b12a, k12b, rfl, N12q, K12, n_b12a, sg_b12a, g12_0, g12_1, g12_2, g12_3⟩ := hQ12
  have N12 := Fr.app N0 N12q
  have sz_b12a : h0.size ≤ b12a := Nat.le_trans (Keep.refl h0 [b2]).1 sg_b12a
  have eK12 : T12.heap = T12.heap := rfl
  have KK12 : Keep h0 T12.heap [b2] := Keep.trans (Keep.refl h0 [b2]) K12 (allS (Or.inl (List.mem_of_getElem? (i := 0) rfl)) all0)
  refine own_go (T' := T12) (f' := (mkF m 6 #[.val (.ref b2)] [])) (fun _ k => st12.trans k) ?_
  refine own_ret X12 (v := none) (fun _ => rfl) Bd.notSynchronized (fun fs hr => X12.returnOut hx Bd.returns (hb hby d5_6) hr) ?_ (by decide) (by decide)
  show Q5a2 Z b2 cs h0 n0 _ T12.heap _
  rw [eK12]
  exact ⟨b12a, k12b, rfl, N12, KK12, n_b12a, sz_b12a, g12_0, g12_1, g12_2, g12_3⟩
theorem pd5 : parseMethodDescriptor "()V" = some ⟨[], none⟩ := by decide +kernel
theorem d10_0 : decode jdk_42_method_152_code 0 = .ok (.getstatic 38, 3) := by decide +kernel
theorem d10_3 : decode jdk_42_method_152_code 3 = .ok (.ifCond .eq 10, 3) := by decide +kernel
theorem d10_6 : decode jdk_42_method_152_code 6 = .ok (.aload_n 0, 1) := by decide +kernel
theorem d10_7 : decode jdk_42_method_152_code 7 = .ok (.getfield 15, 3) := by decide +kernel
theorem d10_10 : decode jdk_42_method_152_code 10 = .ok (.goto 4, 3) := by decide +kernel
theorem d10_14 : decode jdk_42_method_152_code 14 = .ok (.ireturn, 1) := by decide +kernel
theorem pn_7 : plainName "java/lang/String" = true := by first | (simp [plainName, overriddenIn]; done) | decide +kernel
theorem ef_rm10a7 (m : MethodId) (a14 : Addr) : entryFrame m #[(.ref a14)] 1 = mkF m 0 #[.val (.ref a14)] [] := by first | (simp [entryFrame, mkF, argsToLocals, Value.category]; done) | rfl
def Q10a7 (Z : State) (a14 : Addr) (cs : Int32) (h0 : Heap) (n0 : Nat) (v : Option Value) (h : Heap) (L : List Loc) : Prop := v = some (.int (0 : Int32)) ∧ Fr n0 L ∧ h = h0
set_option maxRecDepth 65536 in
set_option maxHeartbeats 40000000 in
theorem rm10a7 (l : Launch) (Z : State) (a0 : Array Value) (hw : ∀ d ∈ tables_1, d.before a0 Z = true) (ws : List Jvm.Cond) (a14 : Addr) (cs : Int32) (h0 : Heap) (n0 : Nat) (Z0 : n0 ≤ h0.size) (PS0 : Sta Z h0 "java/lang/String" "COMPACT_STRINGS" "Z" (.int cs)) (PF13 : Fld Z h0 a14 "java/lang/String" "coder" "B" (.int (0 : Int32))) (PP0 : ¬ (cs = (0 : Int32))) :
    MetFree l mn4 (head1 (Jvm.Cond.code mn4 jdk_42_method_152_code 1 (some .byte) :: ws) ({ frames := 0, cells := 0, slots := 0, locals := 0 } : Room)) (fun a U => a = #[(.ref a14)] ∧ Z.Warmed39 U.vm ∧ U.heap = h0) (fun _ _ _ _ _ => True) (fun _ U o U' => ∃ v L, o = .returned v ∧ Q10a7 Z a14 cs h0 n0 v U'.heap L ∧ FrameEnd U o U' L ({ frames := 0, cells := 0, slots := 0, locals := 0 } : Room).cells ({ frames := 0, cells := 0, slots := 0, locals := 0 } : Room).slots) := by
  refine MetFree.of_bodySF (plainFor_of_name pn_7) hisR ?_
  intro p e s m args below meth c s₁ Bd hml0 hP hK
  obtain ⟨rfl, hZ, hh⟩ := hP
  have hx := Bd.exec
  have hby := Bd.bytes
  have hml : c.maxLocals = 1 := hml0
  have hown : s.vm.findClass "java/lang/String" = some m.cls := findClass_of_methodNamed Bd.named
  have hnm := (name_of_methodNamed Bd.named Bd.method).1
  have X0 : Stand p l e ({ frames := 0, cells := 0, slots := 0, locals := 0 } : Room) s m #[(.ref a14)] below meth c s₁ [] 0 0 := Stand.of_body Bd
  have e0 : s₁.heap = h0 := by rw [← hh, Bd.state]; rfl
  have N0 := Fr.nil n0
  show own_Ends p e below s (Q10a7 Z a14 cs h0 n0) _ _ s₁ _
  rw [ef_rm10a7 m a14]
  obtain ⟨T16, X16, e16, st16⟩ := getS2 X0 hx hZ hown (host := "") (Or.inl (ow71 hw)) Via.refl e0 PS0 (g := (mkF m 0 #[.val (.ref a14)] [])) rfl (hb hby d10_0)
  refine own_go (T' := T16) (f' := (mkF m 7 #[.val (.ref a14)] [(.ref a14)])) (fun _ k => st16 _ (XS.ifNo X16.here hx rfl (hb hby d10_3) rfl ((if0 _ _).trans (feq PP0).1) (XS.aloadN X16.here hx rfl (hb hby d10_6) rfl rfl k))) ?_
  obtain ⟨T17, X17, e17, st17⟩ := getF X16 hx hZ hown (host := "") (Or.inl (ow72 hw)) Via.refl e16 PF13 (g := (mkF m 7 #[.val (.ref a14)] [(.ref a14)])) rfl rfl (hb hby d10_7)
  refine own_go (T' := T17) (f' := (mkF m 14 #[.val (.ref a14)] [(.int (0 : Int32))])) (fun _ k => st17 _ (XS.goto X17.here hx rfl (pc0 := 10) (pc' := 14) rfl (hb hby d10_10) (by decide) (by decide) k)) ?_
  refine own_ret X17 (v := some (.int (nar .byte (0 : Int32)))) (fun h => by rw [Bd.returns] at h; cases h) Bd.notSynchronized (fun fs hr => retN X17 hx (t := .byte) Bd.returns (by simp) (hb hby d10_14) hr) ?_ (by decide) (by decide)
  show Q10a7 Z a14 cs h0 n0 _ T17.heap _
  exact ⟨rfl, N0, e17⟩
theorem pd0 : parseMethodDescriptor "()B" = some ⟨[], some .byte⟩ := by decide +kernel
theorem d9_0 : decode jdk_42_method_54_code 0 = .ok (.aload_n 0, 1) := by decide +kernel
theorem d9_1 : decode jdk_42_method_54_code 1 = .ok (.getfield 9, 3) := by decide +kernel
theorem d9_4 : decode jdk_42_method_54_code 4 = .ok (.arraylength, 1) := by decide +kernel
theorem d9_5 : decode jdk_42_method_54_code 5 = .ok (.aload_n 0, 1) := by decide +kernel
theorem d9_6 : decode jdk_42_method_54_code 6 = .ok (.invokevirtual 335, 3) := by decide +kernel
theorem d9_9 : decode jdk_42_method_54_code 9 = .ok (.ishr, 1) := by decide +kernel
theorem d9_10 : decode jdk_42_method_54_code 10 = .ok (.ireturn, 1) := by decide +kernel
theorem ef_rm9a6 (m : MethodId) (a14 : Addr) : entryFrame m #[(.ref a14)] 1 = mkF m 0 #[.val (.ref a14)] [] := by first | (simp [entryFrame, mkF, argsToLocals, Value.category]; done) | rfl
def Q9a6 (Z : State) (a14 : Addr) (cs : Int32) (b14 : Addr) (kc14 : ClassId) (h0 : Heap) (n0 : Nat) (v : Option Value) (h : Heap) (L : List Loc) : Prop := v = some (.int (18 : Int32)) ∧ Fr n0 L ∧ h = h0
set_option maxRecDepth 65536 in
set_option maxHeartbeats 40000000 in
theorem rm9a6 (l : Launch) (Z : State) (a0 : Array Value) (hw : ∀ d ∈ tables_1, d.before a0 Z = true) (ws : List Jvm.Cond) (a14 : Addr) (cs : Int32) (b14 : Addr) (kc14 : ClassId) (h0 : Heap) (n0 : Nat) (Z0 : n0 ≤ h0.size) (PS0 : Sta Z h0 "java/lang/String" "COMPACT_STRINGS" "Z" (.int cs)) (PE12 : Exa Z h0 a14 "java/lang/String") (PF13 : Fld Z h0 a14 "java/lang/String" "coder" "B" (.int (0 : Int32))) (PF14 : Fld Z h0 a14 "java/lang/String" "value" "[B" (.ref b14)) (PV15 : Arv Z h0 b14 kc14 .byte (18 : Int32) own_ls2 (.int (0 : Int32))) (PP0 : ¬ (cs = (0 : Int32))) :
    MetFree l mn5 (head1 (Jvm.Cond.code mn5 jdk_42_method_54_code 1 (some .int) :: ws) ({ frames := 1, cells := 0, slots := 0, locals := 13 } : Room)) (fun a U => a = #[(.ref a14)] ∧ Z.Warmed39 U.vm ∧ U.heap = h0) (fun _ _ _ _ _ => True) (fun _ U o U' => ∃ v L, o = .returned v ∧ Q9a6 Z a14 cs b14 kc14 h0 n0 v U'.heap L ∧ FrameEnd U o U' L ({ frames := 1, cells := 0, slots := 0, locals := 13 } : Room).cells ({ frames := 1, cells := 0, slots := 0, locals := 13 } : Room).slots) := by
  refine MetFree.of_bodySF (plainFor_of_name pn_7) hisR ?_
  intro p e s m args below meth c s₁ Bd hml0 hP hK
  obtain ⟨rfl, hZ, hh⟩ := hP
  have hx := Bd.exec
  have hby := Bd.bytes
  have hml : c.maxLocals = 1 := hml0
  have hown : s.vm.findClass "java/lang/String" = some m.cls := findClass_of_methodNamed Bd.named
  have hnm := (name_of_methodNamed Bd.named Bd.method).1
  have X0 : Stand p l e ({ frames := 1, cells := 0, slots := 0, locals := 13 } : Room) s m #[(.ref a14)] below meth c s₁ [] 0 0 := Stand.of_body Bd
  have e0 : s₁.heap = h0 := by rw [← hh, Bd.state]; rfl
  have N0 := Fr.nil n0
  show own_Ends p e below s (Q9a6 Z a14 cs b14 kc14 h0 n0) _ _ s₁ _
  rw [ef_rm9a6 m a14]
  refine own_go (T' := s₁) (f' := (mkF m 1 #[.val (.ref a14)] [(.ref a14)])) (fun _ k => XS.aloadN X0.here hx rfl (hb hby d9_0) rfl rfl k) ?_
  obtain ⟨T15, X15, e15, st15⟩ := getF X0 hx hZ hown (host := "") (Or.inl (ow65 hw)) Via.refl e0 PF14 (g := (mkF m 1 #[.val (.ref a14)] [(.ref a14)])) rfl rfl (hb hby d9_1)
  refine own_go (T' := T15) (f' := (mkF m 6 #[.val (.ref a14)] [(.ref a14), (.int (18 : Int32))])) (fun _ k => st15 _ (own_alen X15 hx hZ e15 PV15 rfl rfl (hb hby d9_4) (XS.aloadN X15.here hx rfl (hb hby d9_5) rfl rfl k))) ?_
  obtain ⟨cq18, kq18, q18a, q18b, q18c⟩ := isOf hZ e15 PE12
  obtain ⟨_, _, ⟨T18, L18, k18, n18⟩, -, X18, ⟨Lc18, hQ18, l18, y18, z18⟩, st18⟩ := X15.virtualBack hx (y := mn4) (z := mn4) hown (mvT hZ (ow66 hw)) (mvT hZ (ow67 hw)) (notFace_of_selects (args := #[]) (mvT hZ (ow69 hw))) (mvT hZ (ow69 hw)) (mvT hZ (ow68 hw)) (by decide) (backOf (W := 1) (rm10a7 l Z a0 hw [] a14 cs h0 n0 Z0 PS0 PF13 PP0) hZ (ow70 hw) (ow9 hw) (by decide) (by decide)) q18a q18c (g := (mkF m 6 #[.val (.ref a14)] [(.ref a14), (.int (18 : Int32))])) rfl (by rw [hml]; rfl) (Steps.refl _) (argsL := []) (rest := [(.int (18 : Int32))]) (lenOf pd0 rfl) rfl (by show 2 * 0 + _ ≤ _; exact Nat.le_of_eq rfl) (hb hby d9_6) (fun _ _ => ⟨rfl, e15, (by decide : 0 + 0 ≤ _), (by decide : 0 + 0 ≤ _)⟩)
  dsimp only [Pt.U, Pt.locs, Pt.cells, Pt.slots] at X18 l18 y18 z18 st18 hQ18
  subst l18 y18 z18
  obtain ⟨rfl, N18q, hh18⟩ := hQ18
  have N18 := Fr.app N0 N18q
  refine own_go (T' := T18) (f' := (mkF m 10 #[.val (.ref a14)] [(.int (18 : Int32))])) (fun _ k => st18.trans (XS.ishr X18.here hx rfl (hb hby d9_9) rfl k)) ?_
  refine own_ret X18 (v := some (.int (18 : Int32))) (fun h => by rw [Bd.returns] at h; cases h) Bd.notSynchronized (fun fs hr => retI X18 hx Bd.returns (hb hby d9_10) hr) ?_ (by decide) (by decide)
  show Q9a6 Z a14 cs b14 kc14 h0 n0 _ T18.heap _
  exact ⟨rfl, N18, hh18⟩
theorem pd1 : parseMethodDescriptor "()I" = some ⟨[], some .int⟩ := by decide +kernel
theorem d14_0 : decode jdk_29_method_65_code 0 = .ok (.iload_n 0, 1) := by decide +kernel
theorem d14_1 : decode jdk_29_method_65_code 1 = .ok (.iload_n 1, 1) := by decide +kernel
theorem d14_2 : decode jdk_29_method_65_code 2 = .ok (.if_icmp .lt 7, 3) := by decide +kernel
theorem d14_9 : decode jdk_29_method_65_code 9 = .ok (.iload_n 1, 1) := by decide +kernel
theorem d14_10 : decode jdk_29_method_65_code 10 = .ok (.ireturn, 1) := by decide +kernel
theorem ef_rm14a11 (m : MethodId)  : entryFrame m #[(.int (2 : Int32)), (.int (18 : Int32))] 2 = mkF m 0 #[.val (.int (2 : Int32)), .val (.int (18 : Int32))] [] := by first | (simp [entryFrame, mkF, argsToLocals, Value.category]; done) | rfl
def Q14a11 (Z : State)  (h0 : Heap) (n0 : Nat) (v : Option Value) (h : Heap) (L : List Loc) : Prop := v = some (.int (18 : Int32)) ∧ Fr n0 L ∧ h = h0
set_option maxRecDepth 65536 in
set_option maxHeartbeats 40000000 in
theorem rm14a11 (l : Launch) (Z : State) (a0 : Array Value) (hw : ∀ d ∈ tables_1, d.before a0 Z = true) (ws : List Jvm.Cond)  (h0 : Heap) (n0 : Nat) (Z0 : n0 ≤ h0.size) :
    MetFree l mn6 (head1 (Jvm.Cond.code mn6 jdk_29_method_65_code 2 (some .int) :: ws) ({ frames := 0, cells := 0, slots := 0, locals := 0 } : Room)) (fun a U => a = #[(.int (2 : Int32)), (.int (18 : Int32))] ∧ Z.Warmed39 U.vm ∧ U.heap = h0) (fun _ _ _ _ _ => True) (fun _ U o U' => ∃ v L, o = .returned v ∧ Q14a11 Z  h0 n0 v U'.heap L ∧ FrameEnd U o U' L ({ frames := 0, cells := 0, slots := 0, locals := 0 } : Room).cells ({ frames := 0, cells := 0, slots := 0, locals := 0 } : Room).slots) := by
  refine MetFree.of_bodySF (Jvm.Free.JP.mathPlain rfl (by decide +kernel)) hisR ?_
  intro p e s m args below meth c s₁ Bd hml0 hP hK
  obtain ⟨rfl, hZ, hh⟩ := hP
  have hx := Bd.exec
  have hby := Bd.bytes
  have hml : c.maxLocals = 2 := hml0
  have hown : s.vm.findClass "java/lang/Math" = some m.cls := findClass_of_methodNamed Bd.named
  have hnm := (name_of_methodNamed Bd.named Bd.method).1
  have X0 : Stand p l e ({ frames := 0, cells := 0, slots := 0, locals := 0 } : Room) s m #[(.int (2 : Int32)), (.int (18 : Int32))] below meth c s₁ [] 0 0 := Stand.of_body Bd
  have e0 : s₁.heap = h0 := by rw [← hh, Bd.state]; rfl
  have N0 := Fr.nil n0
  show own_Ends p e below s (Q14a11 Z  h0 n0) _ _ s₁ _
  rw [ef_rm14a11 m ]
  refine own_go (T' := s₁) (f' := (mkF m 10 #[.val (.int (2 : Int32)), .val (.int (18 : Int32))] [(.int (18 : Int32))])) (fun _ k => XS.iloadN X0.here hx rfl (hb hby d14_0) rfl (XS.iloadN X0.here hx rfl (hb hby d14_1) rfl (XS.icmpYes X0.here hx rfl (pc0 := 2) (pc' := 9) rfl (hb hby d14_2) rfl (tlt (by decide : ((2 : Int32) < (18 : Int32)))).1 (by decide) (by decide) (XS.iloadN X0.here hx rfl (hb hby d14_9) rfl k)))) ?_
  refine own_ret X0 (v := some (.int (18 : Int32))) (fun h => by rw [Bd.returns] at h; cases h) Bd.notSynchronized (fun fs hr => retI X0 hx Bd.returns (hb hby d14_10) hr) ?_ (by decide) (by decide)
  show Q14a11 Z  h0 n0 _ s₁.heap _
  exact ⟨rfl, N0, e0⟩
theorem pd13 : parseMethodDescriptor "(II)I" = some ⟨[.int, .int], some .int⟩ := by decide +kernel
theorem d13_0 : decode jdk_48_method_27_code 0 = .ok (.iload_n 0, 1) := by decide +kernel
theorem d13_1 : decode jdk_48_method_27_code 1 = .ok (.iload_n 1, 1) := by decide +kernel
theorem d13_2 : decode jdk_48_method_27_code 2 = .ok (.iload_n 2, 1) := by decide +kernel
theorem d13_3 : decode jdk_48_method_27_code 3 = .ok (.invokestatic 194, 3) := by decide +kernel
theorem d13_6 : decode jdk_48_method_27_code 6 = .ok (.iadd, 1) := by decide +kernel
theorem d13_7 : decode jdk_48_method_27_code 7 = .ok (.istore_n 3, 1) := by decide +kernel
theorem d13_8 : decode jdk_48_method_27_code 8 = .ok (.iconst 0, 1) := by decide +kernel
theorem d13_9 : decode jdk_48_method_27_code 9 = .ok (.iload_n 3, 1) := by decide +kernel
theorem d13_10 : decode jdk_48_method_27_code 10 = .ok (.if_icmp .ge 11, 3) := by decide +kernel
theorem d13_13 : decode jdk_48_method_27_code 13 = .ok (.iload_n 3, 1) := by decide +kernel
theorem d13_14 : decode jdk_48_method_27_code 14 = .ok (.ldc 200, 2) := by decide +kernel
theorem d13_16 : decode jdk_48_method_27_code 16 = .ok (.if_icmp .gt 5, 3) := by decide +kernel
theorem d13_19 : decode jdk_48_method_27_code 19 = .ok (.iload_n 3, 1) := by decide +kernel
theorem d13_20 : decode jdk_48_method_27_code 20 = .ok (.ireturn, 1) := by decide +kernel
theorem pn_10 : plainName "jdk/internal/util/ArraysSupport" = true := by first | (simp [plainName, overriddenIn]; done) | decide +kernel
theorem ef_rm13a10 (m : MethodId)  : entryFrame m #[(.int (16 : Int32)), (.int (2 : Int32)), (.int (18 : Int32))] 4 = mkF m 0 #[.val (.int (16 : Int32)), .val (.int (2 : Int32)), .val (.int (18 : Int32)), .unset] [] := by first | (simp [entryFrame, mkF, argsToLocals, Value.category]; done) | rfl
def Q13a10 (Z : State)  (h0 : Heap) (n0 : Nat) (v : Option Value) (h : Heap) (L : List Loc) : Prop := v = some (.int (34 : Int32)) ∧ Fr n0 L ∧ h = h0
set_option maxRecDepth 65536 in
set_option maxHeartbeats 40000000 in
theorem rm13a10 (l : Launch) (Z : State) (a0 : Array Value) (hw : ∀ d ∈ tables_1, d.before a0 Z = true) (ws : List Jvm.Cond)  (h0 : Heap) (n0 : Nat) (Z0 : n0 ≤ h0.size) :
    MetFree l mn7 (head1 (Jvm.Cond.code mn7 jdk_48_method_27_code 4 (some .int) :: ws) ({ frames := 1, cells := 0, slots := 0, locals := 14 } : Room)) (fun a U => a = #[(.int (16 : Int32)), (.int (2 : Int32)), (.int (18 : Int32))] ∧ Z.Warmed39 U.vm ∧ U.heap = h0) (fun _ _ _ _ _ => True) (fun _ U o U' => ∃ v L, o = .returned v ∧ Q13a10 Z  h0 n0 v U'.heap L ∧ FrameEnd U o U' L ({ frames := 1, cells := 0, slots := 0, locals := 14 } : Room).cells ({ frames := 1, cells := 0, slots := 0, locals := 14 } : Room).slots) := by
  refine MetFree.of_bodySF (plainFor_of_name pn_10) hisR ?_
  intro p e s m args below meth c s₁ Bd hml0 hP hK
  obtain ⟨rfl, hZ, hh⟩ := hP
  have hx := Bd.exec
  have hby := Bd.bytes
  have hml : c.maxLocals = 4 := hml0
  have hown : s.vm.findClass "jdk/internal/util/ArraysSupport" = some m.cls := findClass_of_methodNamed Bd.named
  have hnm := (name_of_methodNamed Bd.named Bd.method).1
  have X0 : Stand p l e ({ frames := 1, cells := 0, slots := 0, locals := 14 } : Room) s m #[(.int (16 : Int32)), (.int (2 : Int32)), (.int (18 : Int32))] below meth c s₁ [] 0 0 := Stand.of_body Bd
  have e0 : s₁.heap = h0 := by rw [← hh, Bd.state]; rfl
  have N0 := Fr.nil n0
  show own_Ends p e below s (Q13a10 Z  h0 n0) _ _ s₁ _
  rw [ef_rm13a10 m ]
  refine own_go (T' := s₁) (f' := (mkF m 3 #[.val (.int (16 : Int32)), .val (.int (2 : Int32)), .val (.int (18 : Int32)), .unset] [(.int (18 : Int32)), (.int (2 : Int32)), (.int (16 : Int32))])) (fun _ k => XS.iloadN X0.here hx rfl (hb hby d13_0) rfl (XS.iloadN X0.here hx rfl (hb hby d13_1) rfl (XS.iloadN X0.here hx rfl (hb hby d13_2) rfl k))) ?_
  obtain ⟨_, _, ⟨T27, L27, k27, n27⟩, -, X27, ⟨Lc27, hQ27, l27, y27, z27⟩, st27⟩ := Jvm.LawKit.callS X0 hx (y := mn6) hown (mvT hZ (ow89 hw)) (mvT hZ (ow90 hw)) (mvT hZ (ow91 hw)) (mvT hZ (ow92 hw)) (by decide) (backOf (W := 1) (rm14a11 l Z a0 hw []  h0 n0 Z0 ) hZ (ow92 hw) (ow91 hw) (by decide) (by decide)) (g := (mkF m 3 #[.val (.int (16 : Int32)), .val (.int (2 : Int32)), .val (.int (18 : Int32)), .unset] [(.int (18 : Int32)), (.int (2 : Int32)), (.int (16 : Int32))])) rfl (by rw [hml]; rfl) (argsL := [(.int (2 : Int32)), (.int (18 : Int32))]) (rest := [(.int (16 : Int32))]) (lenOf pd13 rfl) rfl (by show 2 * 0 + _ ≤ _; exact Nat.le_of_eq rfl) (hb hby d13_3) (fun _ _ => ⟨rfl, e0, (by decide : 0 + 0 ≤ _), (by decide : 0 + 0 ≤ _)⟩)
  dsimp only [Pt.U, Pt.locs, Pt.cells, Pt.slots] at X27 l27 y27 z27 st27 hQ27
  subst l27 y27 z27
  obtain ⟨rfl, N27q, hh27⟩ := hQ27
  have N27 := Fr.app N0 N27q
  refine own_go (T' := T27) (f' := (mkF m 13 #[.val (.int (16 : Int32)), .val (.int (2 : Int32)), .val (.int (18 : Int32)), .val (.int (34 : Int32))] [])) (fun _ k => st27 _ (XS.iadd X27.here hx rfl (hb hby d13_6) rfl (XS.istoreN X27.here hx rfl (hb hby d13_7) rfl (l' := #[.val (.int (16 : Int32)), .val (.int (2 : Int32)), .val (.int (18 : Int32)), .val (.int (34 : Int32))]) rfl (XS.iconst X27.here hx rfl (hb hby d13_8) (XS.iloadN X27.here hx rfl (hb hby d13_9) rfl (XS.icmpNo X27.here hx rfl (hb hby d13_10) rfl (tlt (by decide : ((0 : Int32) < (34 : Int32)))).2.1 k)))))) ?_
  refine own_go (T' := T27) (f' := (mkF m 20 #[.val (.int (16 : Int32)), .val (.int (2 : Int32)), .val (.int (18 : Int32)), .val (.int (34 : Int32))] [(.int (34 : Int32))])) (fun _ k => XS.iloadN X27.here hx rfl (hb hby d13_13) rfl (X27.ldcInt hx hown (mvT hZ (ow93 hw)) (g := (mkF m 14 #[.val (.int (16 : Int32)), .val (.int (2 : Int32)), .val (.int (18 : Int32)), .val (.int (34 : Int32))] [(.int (34 : Int32))])) rfl (hb hby d13_14) _ (XS.icmpNo X27.here hx rfl (hb hby d13_16) rfl (flt (by decide : ¬ ((2147483639 : Int32) < (34 : Int32)))).2.2.1 (XS.iloadN X27.here hx rfl (hb hby d13_19) rfl k)))) ?_
  refine own_ret X27 (v := some (.int (34 : Int32))) (fun h => by rw [Bd.returns] at h; cases h) Bd.notSynchronized (fun fs hr => retI X27 hx Bd.returns (hb hby d13_20) hr) ?_ (by decide) (by decide)
  show Q13a10 Z  h0 n0 _ T27.heap _
  exact ⟨rfl, N27, hh27⟩
theorem pd15 : parseMethodDescriptor "(III)I" = some ⟨[.int, .int, .int], some .int⟩ := by decide +kernel
theorem d12_0 : decode jdk_68_method_10_code 0 = .ok (.aload_n 0, 1) := by decide +kernel
theorem d12_1 : decode jdk_68_method_10_code 1 = .ok (.getfield 15, 3) := by decide +kernel
theorem d12_4 : decode jdk_68_method_10_code 4 = .ok (.arraylength, 1) := by decide +kernel
theorem d12_5 : decode jdk_68_method_10_code 5 = .ok (.istore_n 2, 1) := by decide +kernel
theorem d12_6 : decode jdk_68_method_10_code 6 = .ok (.iload_n 1, 1) := by decide +kernel
theorem d12_7 : decode jdk_68_method_10_code 7 = .ok (.aload_n 0, 1) := by decide +kernel
theorem d12_8 : decode jdk_68_method_10_code 8 = .ok (.getfield 22, 3) := by decide +kernel
theorem d12_11 : decode jdk_68_method_10_code 11 = .ok (.ishl, 1) := by decide +kernel
theorem d12_12 : decode jdk_68_method_10_code 12 = .ok (.istore_n 3, 1) := by decide +kernel
theorem d12_13 : decode jdk_68_method_10_code 13 = .ok (.iload_n 3, 1) := by decide +kernel
theorem d12_14 : decode jdk_68_method_10_code 14 = .ok (.iload_n 2, 1) := by decide +kernel
theorem d12_15 : decode jdk_68_method_10_code 15 = .ok (.isub, 1) := by decide +kernel
theorem d12_16 : decode jdk_68_method_10_code 16 = .ok (.istore 4, 2) := by decide +kernel
theorem d12_18 : decode jdk_68_method_10_code 18 = .ok (.iload_n 2, 1) := by decide +kernel
theorem d12_19 : decode jdk_68_method_10_code 19 = .ok (.iload 4, 2) := by decide +kernel
theorem d12_21 : decode jdk_68_method_10_code 21 = .ok (.iload_n 2, 1) := by decide +kernel
theorem d12_22 : decode jdk_68_method_10_code 22 = .ok (.iconst 2, 1) := by decide +kernel
theorem d12_23 : decode jdk_68_method_10_code 23 = .ok (.aload_n 0, 1) := by decide +kernel
theorem d12_24 : decode jdk_68_method_10_code 24 = .ok (.getfield 22, 3) := by decide +kernel
theorem d12_27 : decode jdk_68_method_10_code 27 = .ok (.ishl, 1) := by decide +kernel
theorem d12_28 : decode jdk_68_method_10_code 28 = .ok (.iadd, 1) := by decide +kernel
theorem d12_29 : decode jdk_68_method_10_code 29 = .ok (.invokestatic 114, 3) := by decide +kernel
theorem d12_32 : decode jdk_68_method_10_code 32 = .ok (.istore 5, 2) := by decide +kernel
theorem d12_34 : decode jdk_68_method_10_code 34 = .ok (.iload 5, 2) := by decide +kernel
theorem d12_36 : decode jdk_68_method_10_code 36 = .ok (.ldc 39, 2) := by decide +kernel
theorem d12_38 : decode jdk_68_method_10_code 38 = .ok (.if_icmp .ne 13, 3) := by decide +kernel
theorem d12_51 : decode jdk_68_method_10_code 51 = .ok (.iload 5, 2) := by decide +kernel
theorem d12_53 : decode jdk_68_method_10_code 53 = .ok (.aload_n 0, 1) := by decide +kernel
theorem d12_54 : decode jdk_68_method_10_code 54 = .ok (.getfield 22, 3) := by decide +kernel
theorem d12_57 : decode jdk_68_method_10_code 57 = .ok (.ishr, 1) := by decide +kernel
theorem d12_58 : decode jdk_68_method_10_code 58 = .ok (.ireturn, 1) := by decide +kernel
theorem ef_rm12a9 (m : MethodId) (b2 : Addr) : entryFrame m #[(.ref b2), (.int (18 : Int32))] 6 = mkF m 0 #[.val (.ref b2), .val (.int (18 : Int32)), .unset, .unset, .unset, .unset] [] := by first | (simp [entryFrame, mkF, argsToLocals, Value.category]; done) | rfl
def Q12a9 (Z : State) (b2 : Addr) (b13a : Addr) (k13b : ClassId) (h0 : Heap) (n0 : Nat) (v : Option Value) (h : Heap) (L : List Loc) : Prop := v = some (.int (34 : Int32)) ∧ Fr n0 L ∧ h = h0
set_option maxRecDepth 65536 in
set_option maxHeartbeats 40000000 in
theorem rm12a9 (l : Launch) (Z : State) (a0 : Array Value) (hw : ∀ d ∈ tables_1, d.before a0 Z = true) (ws : List Jvm.Cond) (b2 : Addr) (b13a : Addr) (k13b : ClassId) (h0 : Heap) (n0 : Nat) (Z0 : n0 ≤ h0.size) (PF8 : Fld Z h0 b2 "java/lang/AbstractStringBuilder" "value" "[B" (.ref b13a)) (PF9 : Fld Z h0 b2 "java/lang/AbstractStringBuilder" "coder" "B" (.int (0 : Int32))) (PV11 : Arv Z h0 b13a k13b .byte (16 : Int32) own_ls1 (.int (0 : Int32))) :
    MetFree l mn8 (head1 (Jvm.Cond.code mn8 jdk_68_method_10_code 6 (some .int) :: ws) ({ frames := 2, cells := 0, slots := 0, locals := 29 } : Room)) (fun a U => a = #[(.ref b2), (.int (18 : Int32))] ∧ Z.Warmed39 U.vm ∧ U.heap = h0) (fun _ _ _ _ _ => True) (fun _ U o U' => ∃ v L, o = .returned v ∧ Q12a9 Z b2 b13a k13b h0 n0 v U'.heap L ∧ FrameEnd U o U' L ({ frames := 2, cells := 0, slots := 0, locals := 29 } : Room).cells ({ frames := 2, cells := 0, slots := 0, locals := 29 } : Room).slots) := by
  refine MetFree.of_bodySF (plainFor_of_name pn_3) hisR ?_
  intro p e s m args below meth c s₁ Bd hml0 hP hK
  obtain ⟨rfl, hZ, hh⟩ := hP
  have hx := Bd.exec
  have hby := Bd.bytes
  have hml : c.maxLocals = 6 := hml0
  have hown : s.vm.findClass "java/lang/AbstractStringBuilder" = some m.cls := findClass_of_methodNamed Bd.named
  have hnm := (name_of_methodNamed Bd.named Bd.method).1
  have X0 : Stand p l e ({ frames := 2, cells := 0, slots := 0, locals := 29 } : Room) s m #[(.ref b2), (.int (18 : Int32))] below meth c s₁ [] 0 0 := Stand.of_body Bd
  have e0 : s₁.heap = h0 := by rw [← hh, Bd.state]; rfl
  have N0 := Fr.nil n0
  show own_Ends p e below s (Q12a9 Z b2 b13a k13b h0 n0) _ _ s₁ _
  rw [ef_rm12a9 m b2]
  refine own_go (T' := s₁) (f' := (mkF m 1 #[.val (.ref b2), .val (.int (18 : Int32)), .unset, .unset, .unset, .unset] [(.ref b2)])) (fun _ k => XS.aloadN X0.here hx rfl (hb hby d12_0) rfl rfl k) ?_
  obtain ⟨T24, X24, e24, st24⟩ := getF X0 hx hZ hown (host := "") (Or.inl (ow45 hw)) Via.refl e0 PF8 (g := (mkF m 1 #[.val (.ref b2), .val (.int (18 : Int32)), .unset, .unset, .unset, .unset] [(.ref b2)])) rfl rfl (hb hby d12_1)
  refine own_go (T' := T24) (f' := (mkF m 8 #[.val (.ref b2), .val (.int (18 : Int32)), .val (.int (16 : Int32)), .unset, .unset, .unset] [(.ref b2), (.int (18 : Int32))])) (fun _ k => st24 _ (own_alen X24 hx hZ e24 PV11 rfl rfl (hb hby d12_4) (XS.istoreN X24.here hx rfl (hb hby d12_5) rfl (l' := #[.val (.ref b2), .val (.int (18 : Int32)), .val (.int (16 : Int32)), .unset, .unset, .unset]) rfl (XS.iloadN X24.here hx rfl (hb hby d12_6) rfl (XS.aloadN X24.here hx rfl (hb hby d12_7) rfl rfl k))))) ?_
  obtain ⟨T25, X25, e25, st25⟩ := getF X24 hx hZ hown (host := "") (Or.inl (ow47 hw)) Via.refl e24 PF9 (g := (mkF m 8 #[.val (.ref b2), .val (.int (18 : Int32)), .val (.int (16 : Int32)), .unset, .unset, .unset] [(.ref b2), (.int (18 : Int32))])) rfl rfl (hb hby d12_8)
  refine own_go (T' := T25) (f' := (mkF m 16 #[.val (.ref b2), .val (.int (18 : Int32)), .val (.int (16 : Int32)), .val (.int (18 : Int32)), .unset, .unset] [(.int (2 : Int32))])) (fun _ k => st25 _ (XS.ishl X25.here hx rfl (hb hby d12_11) rfl (XS.istoreN X25.here hx rfl (hb hby d12_12) rfl (l' := #[.val (.ref b2), .val (.int (18 : Int32)), .val (.int (16 : Int32)), .val (.int (18 : Int32)), .unset, .unset]) rfl (XS.iloadN X25.here hx rfl (hb hby d12_13) rfl (XS.iloadN X25.here hx rfl (hb hby d12_14) rfl (XS.isub X25.here hx rfl (hb hby d12_15) rfl k)))))) ?_
  refine own_go (T' := T25) (f' := (mkF m 24 #[.val (.ref b2), .val (.int (18 : Int32)), .val (.int (16 : Int32)), .val (.int (18 : Int32)), .val (.int (2 : Int32)), .unset] [(.ref b2), (.int (2 : Int32)), (.int (16 : Int32)), (.int (2 : Int32)), (.int (16 : Int32))])) (fun _ k => XS.istore X25.here hx rfl (hb hby d12_16) rfl (l' := #[.val (.ref b2), .val (.int (18 : Int32)), .val (.int (16 : Int32)), .val (.int (18 : Int32)), .val (.int (2 : Int32)), .unset]) rfl (XS.iloadN X25.here hx rfl (hb hby d12_18) rfl (XS.iload X25.here hx rfl (hb hby d12_19) rfl (XS.iloadN X25.here hx rfl (hb hby d12_21) rfl (XS.iconst X25.here hx rfl (hb hby d12_22) (XS.aloadN X25.here hx rfl (hb hby d12_23) rfl rfl k)))))) ?_
  obtain ⟨T26, X26, e26, st26⟩ := getF X25 hx hZ hown (host := "") (Or.inl (ow47 hw)) Via.refl e25 PF9 (g := (mkF m 24 #[.val (.ref b2), .val (.int (18 : Int32)), .val (.int (16 : Int32)), .val (.int (18 : Int32)), .val (.int (2 : Int32)), .unset] [(.ref b2), (.int (2 : Int32)), (.int (16 : Int32)), (.int (2 : Int32)), (.int (16 : Int32))])) rfl rfl (hb hby d12_24)
  refine own_go (T' := T26) (f' := (mkF m 29 #[.val (.ref b2), .val (.int (18 : Int32)), .val (.int (16 : Int32)), .val (.int (18 : Int32)), .val (.int (2 : Int32)), .unset] [(.int (18 : Int32)), (.int (2 : Int32)), (.int (16 : Int32))])) (fun _ k => st26 _ (XS.ishl X26.here hx rfl (hb hby d12_27) rfl (XS.iadd X26.here hx rfl (hb hby d12_28) rfl k))) ?_
  obtain ⟨_, _, ⟨T28, L28, k28, n28⟩, -, X28, ⟨Lc28, hQ28, l28, y28, z28⟩, st28⟩ := Jvm.LawKit.callS X26 hx (y := mn7) hown (mvT hZ (ow85 hw)) (mvT hZ (ow86 hw)) (mvT hZ (ow87 hw)) (mvT hZ (ow88 hw)) (by decide) (backOf (W := 0) (rm13a10 l Z a0 hw []  h0 n0 Z0 ) hZ (ow88 hw) (ow87 hw) (by decide) (by decide)) (g := (mkF m 29 #[.val (.ref b2), .val (.int (18 : Int32)), .val (.int (16 : Int32)), .val (.int (18 : Int32)), .val (.int (2 : Int32)), .unset] [(.int (18 : Int32)), (.int (2 : Int32)), (.int (16 : Int32))])) rfl (by rw [hml]; rfl) (argsL := [(.int (16 : Int32)), (.int (2 : Int32)), (.int (18 : Int32))]) (rest := []) (lenOf pd15 rfl) rfl (by show 2 * 0 + _ ≤ _; exact Nat.le_of_eq rfl) (hb hby d12_29) (fun _ _ => ⟨rfl, e26, (by decide : 0 + 0 ≤ _), (by decide : 0 + 0 ≤ _)⟩)
  dsimp only [Pt.U, Pt.locs, Pt.cells, Pt.slots] at X28 l28 y28 z28 st28 hQ28
  subst l28 y28 z28
  obtain ⟨rfl, N28q, hh28⟩ := hQ28
  have N28 := Fr.app N0 N28q
  refine own_go (T' := T28) (f' := (mkF m 53 #[.val (.ref b2), .val (.int (18 : Int32)), .val (.int (16 : Int32)), .val (.int (18 : Int32)), .val (.int (2 : Int32)), .val (.int (34 : Int32))] [(.int (34 : Int32))])) (fun _ k => st28 _ (XS.istore X28.here hx rfl (hb hby d12_32) rfl (l' := #[.val (.ref b2), .val (.int (18 : Int32)), .val (.int (16 : Int32)), .val (.int (18 : Int32)), .val (.int (2 : Int32)), .val (.int (34 : Int32))]) rfl (XS.iload X28.here hx rfl (hb hby d12_34) rfl (X28.ldcInt hx hown (mvT hZ (ow94 hw)) (g := (mkF m 36 #[.val (.ref b2), .val (.int (18 : Int32)), .val (.int (16 : Int32)), .val (.int (18 : Int32)), .val (.int (2 : Int32)), .val (.int (34 : Int32))] [(.int (34 : Int32))])) rfl (hb hby d12_36) _ (XS.icmpYes X28.here hx rfl (pc0 := 38) (pc' := 51) rfl (hb hby d12_38) rfl (feq (by decide : ¬ ((34 : Int32) = (2147483647 : Int32)))).2 (by decide) (by decide) (XS.iload X28.here hx rfl (hb hby d12_51) rfl k)))))) ?_
  refine own_go (T' := T28) (f' := (mkF m 54 #[.val (.ref b2), .val (.int (18 : Int32)), .val (.int (16 : Int32)), .val (.int (18 : Int32)), .val (.int (2 : Int32)), .val (.int (34 : Int32))] [(.ref b2), (.int (34 : Int32))])) (fun _ k => XS.aloadN X28.here hx rfl (hb hby d12_53) rfl rfl k) ?_
  obtain ⟨T29, X29, e29, st29⟩ := getF X28 hx hZ hown (host := "") (Or.inl (ow47 hw)) Via.refl hh28 PF9 (g := (mkF m 54 #[.val (.ref b2), .val (.int (18 : Int32)), .val (.int (16 : Int32)), .val (.int (18 : Int32)), .val (.int (2 : Int32)), .val (.int (34 : Int32))] [(.ref b2), (.int (34 : Int32))])) rfl rfl (hb hby d12_54)
  refine own_go (T' := T29) (f' := (mkF m 58 #[.val (.ref b2), .val (.int (18 : Int32)), .val (.int (16 : Int32)), .val (.int (18 : Int32)), .val (.int (2 : Int32)), .val (.int (34 : Int32))] [(.int (34 : Int32))])) (fun _ k => st29 _ (XS.ishr X29.here hx rfl (hb hby d12_57) rfl k)) ?_
  refine own_ret X29 (v := some (.int (34 : Int32))) (fun h => by rw [Bd.returns] at h; cases h) Bd.notSynchronized (fun fs hr => retI X29 hx Bd.returns (hb hby d12_58) hr) ?_ (by decide) (by decide)
  show Q12a9 Z b2 b13a k13b h0 n0 _ T29.heap _
  exact ⟨rfl, N28, e29⟩
theorem pd8 : parseMethodDescriptor "(I)I" = some ⟨[.int], some .int⟩ := by decide +kernel
theorem d16_0 : decode jdk_29_method_69_code 0 = .ok (.iload_n 0, 1) := by decide +kernel
theorem d16_1 : decode jdk_29_method_69_code 1 = .ok (.iload_n 1, 1) := by decide +kernel
theorem d16_2 : decode jdk_29_method_69_code 2 = .ok (.if_icmp .gt 7, 3) := by decide +kernel
theorem d16_5 : decode jdk_29_method_69_code 5 = .ok (.iload_n 0, 1) := by decide +kernel
theorem d16_6 : decode jdk_29_method_69_code 6 = .ok (.goto 4, 3) := by decide +kernel
theorem d16_10 : decode jdk_29_method_69_code 10 = .ok (.ireturn, 1) := by decide +kernel
theorem ef_rm16a13 (m : MethodId)  : entryFrame m #[(.int (16 : Int32)), (.int (34 : Int32))] 2 = mkF m 0 #[.val (.int (16 : Int32)), .val (.int (34 : Int32))] [] := by first | (simp [entryFrame, mkF, argsToLocals, Value.category]; done) | rfl
def Q16a13 (Z : State)  (h0 : Heap) (n0 : Nat) (v : Option Value) (h : Heap) (L : List Loc) : Prop := v = some (.int (16 : Int32)) ∧ Fr n0 L ∧ h = h0
set_option maxRecDepth 65536 in
set_option maxHeartbeats 40000000 in
theorem rm16a13 (l : Launch) (Z : State) (a0 : Array Value) (hw : ∀ d ∈ tables_1, d.before a0 Z = true) (ws : List Jvm.Cond)  (h0 : Heap) (n0 : Nat) (Z0 : n0 ≤ h0.size) :
    MetFree l mn9 (head1 (Jvm.Cond.code mn9 jdk_29_method_69_code 2 (some .int) :: ws) ({ frames := 0, cells := 0, slots := 0, locals := 0 } : Room)) (fun a U => a = #[(.int (16 : Int32)), (.int (34 : Int32))] ∧ Z.Warmed39 U.vm ∧ U.heap = h0) (fun _ _ _ _ _ => True) (fun _ U o U' => ∃ v L, o = .returned v ∧ Q16a13 Z  h0 n0 v U'.heap L ∧ FrameEnd U o U' L ({ frames := 0, cells := 0, slots := 0, locals := 0 } : Room).cells ({ frames := 0, cells := 0, slots := 0, locals := 0 } : Room).slots) := by
  refine MetFree.of_bodySF (Jvm.Free.JP.mathPlain rfl (by decide +kernel)) hisR ?_
  intro p e s m args below meth c s₁ Bd hml0 hP hK
  obtain ⟨rfl, hZ, hh⟩ := hP
  have hx := Bd.exec
  have hby := Bd.bytes
  have hml : c.maxLocals = 2 := hml0
  have hown : s.vm.findClass "java/lang/Math" = some m.cls := findClass_of_methodNamed Bd.named
  have hnm := (name_of_methodNamed Bd.named Bd.method).1
  have X0 : Stand p l e ({ frames := 0, cells := 0, slots := 0, locals := 0 } : Room) s m #[(.int (16 : Int32)), (.int (34 : Int32))] below meth c s₁ [] 0 0 := Stand.of_body Bd
  have e0 : s₁.heap = h0 := by rw [← hh, Bd.state]; rfl
  have N0 := Fr.nil n0
  show own_Ends p e below s (Q16a13 Z  h0 n0) _ _ s₁ _
  rw [ef_rm16a13 m ]
  refine own_go (T' := s₁) (f' := (mkF m 10 #[.val (.int (16 : Int32)), .val (.int (34 : Int32))] [(.int (16 : Int32))])) (fun _ k => XS.iloadN X0.here hx rfl (hb hby d16_0) rfl (XS.iloadN X0.here hx rfl (hb hby d16_1) rfl (XS.icmpNo X0.here hx rfl (hb hby d16_2) rfl (flt (by decide : ¬ ((34 : Int32) < (16 : Int32)))).2.2.1 (XS.iloadN X0.here hx rfl (hb hby d16_5) rfl (XS.goto X0.here hx rfl (pc0 := 6) (pc' := 10) rfl (hb hby d16_6) (by decide) (by decide) k))))) ?_
  refine own_ret X0 (v := some (.int (16 : Int32))) (fun h => by rw [Bd.returns] at h; cases h) Bd.notSynchronized (fun fs hr => retI X0 hx Bd.returns (hb hby d16_10) hr) ?_ (by decide) (by decide)
  show Q16a13 Z  h0 n0 _ s₁.heap _
  exact ⟨rfl, N0, e0⟩
theorem d15_0 : decode jdk_65_method_121_code 0 = .ok (.iload_n 1, 1) := by decide +kernel
theorem d15_1 : decode jdk_65_method_121_code 1 = .ok (.aload_n 0, 1) := by decide +kernel
theorem d15_2 : decode jdk_65_method_121_code 2 = .ok (.arraylength, 1) := by decide +kernel
theorem d15_3 : decode jdk_65_method_121_code 3 = .ok (.if_icmp .ne 11, 3) := by decide +kernel
theorem d15_14 : decode jdk_65_method_121_code 14 = .ok (.iload_n 1, 1) := by decide +kernel
theorem d15_15 : decode jdk_65_method_121_code 15 = .ok (.newarray .byte, 2) := by decide +kernel
theorem d15_17 : decode jdk_65_method_121_code 17 = .ok (.astore_n 2, 1) := by decide +kernel
theorem d15_18 : decode jdk_65_method_121_code 18 = .ok (.aload_n 0, 1) := by decide +kernel
theorem d15_19 : decode jdk_65_method_121_code 19 = .ok (.iconst 0, 1) := by decide +kernel
theorem d15_20 : decode jdk_65_method_121_code 20 = .ok (.aload_n 2, 1) := by decide +kernel
theorem d15_21 : decode jdk_65_method_121_code 21 = .ok (.iconst 0, 1) := by decide +kernel
theorem d15_22 : decode jdk_65_method_121_code 22 = .ok (.aload_n 0, 1) := by decide +kernel
theorem d15_23 : decode jdk_65_method_121_code 23 = .ok (.arraylength, 1) := by decide +kernel
theorem d15_24 : decode jdk_65_method_121_code 24 = .ok (.iload_n 1, 1) := by decide +kernel
theorem d15_25 : decode jdk_65_method_121_code 25 = .ok (.invokestatic 304, 3) := by decide +kernel
theorem d15_28 : decode jdk_65_method_121_code 28 = .ok (.invokestatic 150, 3) := by decide +kernel
theorem d15_31 : decode jdk_65_method_121_code 31 = .ok (.aload_n 2, 1) := by decide +kernel
theorem d15_32 : decode jdk_65_method_121_code 32 = .ok (.areturn, 1) := by decide +kernel
theorem pn_9 : plainName "java/util/Arrays" = true := by first | (simp [plainName, overriddenIn]; done) | decide +kernel
theorem ef_rm15a12 (m : MethodId) (b13a : Addr) : entryFrame m #[(.ref b13a), (.int (34 : Int32))] 3 = mkF m 0 #[.val (.ref b13a), .val (.int (34 : Int32)), .unset] [] := by first | (simp [entryFrame, mkF, argsToLocals, Value.category]; done) | rfl
def Q15a12 (Z : State) (b13a : Addr) (k13b : ClassId) (h0 : Heap) (n0 : Nat) (v : Option Value) (h : Heap) (L : List Loc) : Prop := ∃ (b32 : Addr) (k32 : ClassId), v = some (.ref b32) ∧ Fr n0 L ∧ Keep h0 h [] ∧ n0 ≤ b32 ∧ h0.size ≤ b32 ∧ Arv Z h b32 k32 .byte (34 : Int32) own_ls3 (.int (0 : Int32))
set_option maxRecDepth 65536 in
set_option maxHeartbeats 40000000 in
theorem rm15a12 (l : Launch) (Z : State) (a0 : Array Value) (hw : ∀ d ∈ tables_1, d.before a0 Z = true) (ws : List Jvm.Cond) (b13a : Addr) (k13b : ClassId) (h0 : Heap) (n0 : Nat) (Z0 : n0 ≤ h0.size) (PV11 : Arv Z h0 b13a k13b .byte (16 : Int32) own_ls1 (.int (0 : Int32))) :
    MetFree l mn10 (head1 (Jvm.Cond.code mn10 jdk_65_method_121_code 3 (some (.array .byte)) :: ws) ({ frames := 1, cells := 1, slots := 34, locals := 18 } : Room)) (fun a U => a = #[(.ref b13a), (.int (34 : Int32))] ∧ Z.Warmed39 U.vm ∧ U.heap = h0) (fun _ _ _ _ _ => True) (fun _ U o U' => ∃ v L, o = .returned v ∧ Q15a12 Z b13a k13b h0 n0 v U'.heap L ∧ FrameEnd U o U' L ({ frames := 1, cells := 1, slots := 34, locals := 18 } : Room).cells ({ frames := 1, cells := 1, slots := 34, locals := 18 } : Room).slots) := by
  refine MetFree.of_bodySF (plainFor_of_name pn_9) hisR ?_
  intro p e s m args below meth c s₁ Bd hml0 hP hK
  obtain ⟨rfl, hZ, hh⟩ := hP
  have hx := Bd.exec
  have hby := Bd.bytes
  have hml : c.maxLocals = 3 := hml0
  have hown : s.vm.findClass "java/util/Arrays" = some m.cls := findClass_of_methodNamed Bd.named
  have hnm := (name_of_methodNamed Bd.named Bd.method).1
  have X0 : Stand p l e ({ frames := 1, cells := 1, slots := 34, locals := 18 } : Room) s m #[(.ref b13a), (.int (34 : Int32))] below meth c s₁ [] 0 0 := Stand.of_body Bd
  have e0 : s₁.heap = h0 := by rw [← hh, Bd.state]; rfl
  have N0 := Fr.nil n0
  show own_Ends p e below s (Q15a12 Z b13a k13b h0 n0) _ _ s₁ _
  rw [ef_rm15a12 m b13a]
  refine own_go (T' := s₁) (f' := (mkF m 15 #[.val (.ref b13a), .val (.int (34 : Int32)), .unset] [(.int (34 : Int32))])) (fun _ k => XS.iloadN X0.here hx rfl (hb hby d15_0) rfl (XS.aloadN X0.here hx rfl (hb hby d15_1) rfl rfl (own_alen X0 hx hZ e0 PV11 rfl rfl (hb hby d15_2) (XS.icmpYes X0.here hx rfl (pc0 := 3) (pc' := 14) rfl (hb hby d15_3) rfl (feq (by decide : ¬ ((34 : Int32) = (16 : Int32)))).2 (by decide) (by decide) (XS.iloadN X0.here hx rfl (hb hby d15_14) rfl k))))) ?_
  obtain ⟨T32, h32, k32, X32, e32, E32, A32, st32⟩ := newP (aty := .byte) X0 hx hZ (ow11 hw) e0 (g := (mkF m 15 #[.val (.ref b13a), .val (.int (34 : Int32)), .unset] [(.int (34 : Int32))])) rfl (hb hby d15_15) rfl (by decide) (cap := 34) (by decide) (by decide) (by decide) (by decide)
  obtain ⟨b32, g_b32⟩ : ∃ z, z = h0.size := ⟨_, rfl⟩
  have sg_b32 : h0.size ≤ b32 := Nat.le_of_eq g_b32.symm
  rw [← g_b32] at A32 st32
  have n_b32 : n0 ≤ b32 := Nat.le_trans Z0 (Nat.le_of_eq g_b32.symm)
  have sz_b32 : h0.size ≤ b32 := Nat.le_trans (Keep.refl h0 []).1 (Nat.le_of_eq g_b32.symm)
  have K32 : Keep h0 h32 [] := (Keep.refl h0 []).ext E32
  have V_b32 : Arv Z h32 b32 k32 .byte (34 : Int32) own_ls3 (.int (0 : Int32)) := (Arv.new A32 (by decide)).pad (pad_rep [] (.int (0 : Int32)) 34)
  refine own_go (T' := T32) (f' := (mkF m 22 #[.val (.ref b13a), .val (.int (34 : Int32)), .val (.ref b32)] [(.int (0 : Int32)), (.ref b32), (.int (0 : Int32)), (.ref b13a)])) (fun _ k => st32 _ (XS.astoreN X32.here hx rfl (hb hby d15_17) rfl rfl (l' := #[.val (.ref b13a), .val (.int (34 : Int32)), .val (.ref b32)]) rfl (XS.aloadN X32.here hx rfl (hb hby d15_18) rfl rfl (XS.iconst X32.here hx rfl (hb hby d15_19) (XS.aloadN X32.here hx rfl (hb hby d15_20) rfl rfl (XS.iconst X32.here hx rfl (hb hby d15_21) k)))))) ?_
  refine own_go (T' := T32) (f' := (mkF m 25 #[.val (.ref b13a), .val (.int (34 : Int32)), .val (.ref b32)] [(.int (34 : Int32)), (.int (16 : Int32)), (.int (0 : Int32)), (.ref b32), (.int (0 : Int32)), (.ref b13a)])) (fun _ k => XS.aloadN X32.here hx rfl (hb hby d15_22) rfl rfl (own_alen X32 hx hZ e32 (PV11.ext E32) rfl rfl (hb hby d15_23) (XS.iloadN X32.here hx rfl (hb hby d15_24) rfl k))) ?_
  obtain ⟨_, _, ⟨T33, L33, k33, n33⟩, -, X33, ⟨Lc33, hQ33, l33, y33, z33⟩, st33⟩ := Jvm.LawKit.callS X32 hx (y := mn9) hown (mvT hZ (ow99 hw)) (mvT hZ (ow100 hw)) (mvT hZ (ow91 hw)) (mvT hZ (ow101 hw)) (by decide) (backOf (W := 4) (rm16a13 l Z a0 hw []  h32 n0 (Nat.le_trans Z0 E32.1) ) hZ (ow101 hw) (ow91 hw) (by decide) (by decide)) (g := (mkF m 25 #[.val (.ref b13a), .val (.int (34 : Int32)), .val (.ref b32)] [(.int (34 : Int32)), (.int (16 : Int32)), (.int (0 : Int32)), (.ref b32), (.int (0 : Int32)), (.ref b13a)])) rfl (by rw [hml]; rfl) (argsL := [(.int (16 : Int32)), (.int (34 : Int32))]) (rest := [(.int (0 : Int32)), (.ref b32), (.int (0 : Int32)), (.ref b13a)]) (lenOf pd13 rfl) rfl (by show 2 * 0 + _ ≤ _; exact Nat.le_of_eq rfl) (hb hby d15_25) (fun _ _ => ⟨rfl, e32, (by decide : 1 + 0 ≤ _), (by decide : 34 + 0 ≤ _)⟩)
  dsimp only [Pt.U, Pt.locs, Pt.cells, Pt.slots] at X33 l33 y33 z33 st33 hQ33
  subst l33 y33 z33
  obtain ⟨rfl, N33q, hh33⟩ := hQ33
  have N33 := Fr.app N0 N33q
  refine own_go (T' := T33) (f' := (mkF m 28 #[.val (.ref b13a), .val (.int (34 : Int32)), .val (.ref b32)] [(.int (16 : Int32)), (.int (0 : Int32)), (.ref b32), (.int (0 : Int32)), (.ref b13a)])) (fun _ k => st33 _ k) ?_
  obtain ⟨T34, h34, Lq34, X34, e34, N34, K34, V34, st34⟩ := cpA X33 hx hZ hown (ow102 hw) (ow105 hw) (ow103 hw) (ow104 hw) hh33 (PV11.ext E32) V_b32 (Or.inl ⟨rfl, rfl⟩) (sp := (0 : Int32)) (dp := (0 : Int32)) (nn := (16 : Int32)) (by decide) (by decide) (by decide) (by decide) (by decide) (us := own_ls1) rfl (Nat.le_of_ble_eq_true rfl) N33 n_b32 (g := (mkF m 28 #[.val (.ref b13a), .val (.int (34 : Int32)), .val (.ref b32)] [(.int (16 : Int32)), (.int (0 : Int32)), (.ref b32), (.int (0 : Int32)), (.ref b13a)])) rfl (by rw [hml]; rfl) rfl (hb hby d15_28) (by decide) (W := 0) (by show 2 * 0 + _ ≤ _; exact Nat.le_of_eq rfl) (by decide)
  have V34s : Arv Z h34 b32 k32 .byte (34 : Int32) own_ls3 (.int (0 : Int32)) := V34
  have KK34 : Keep h0 h34 [] := Keep.trans K32 K34 (allS (Or.inr sz_b32) all0)
  refine own_go (T' := T34) (f' := (mkF m 32 #[.val (.ref b13a), .val (.int (34 : Int32)), .val (.ref b32)] [(.ref b32)])) (fun _ k => st34 _ (XS.aloadN X34.here hx rfl (hb hby d15_31) rfl rfl k)) ?_
  refine own_ret X34 (v := some (.ref b32)) (fun h => by rw [Bd.returns] at h; cases h) Bd.notSynchronized (fun fs hr => own_retA X34 hx Bd.returns rfl rfl (hb hby d15_32) hr) ?_ (by decide) (by decide)
  show Q15a12 Z b13a k13b h0 n0 _ T34.heap _
  rw [e34]
  exact ⟨b32, k32, rfl, N34, KK34, n_b32, sz_b32, V34s⟩
theorem pd25 : parseMethodDescriptor "([BI)[B" = some ⟨[(.array .byte), .int], some (.array .byte)⟩ := by decide +kernel
theorem d11_0 : decode jdk_68_method_9_code 0 = .ok (.aload_n 0, 1) := by decide +kernel
theorem d11_1 : decode jdk_68_method_9_code 1 = .ok (.getfield 15, 3) := by decide +kernel
theorem d11_4 : decode jdk_68_method_9_code 4 = .ok (.arraylength, 1) := by decide +kernel
theorem d11_5 : decode jdk_68_method_9_code 5 = .ok (.aload_n 0, 1) := by decide +kernel
theorem d11_6 : decode jdk_68_method_9_code 6 = .ok (.getfield 22, 3) := by decide +kernel
theorem d11_9 : decode jdk_68_method_9_code 9 = .ok (.ishr, 1) := by decide +kernel
theorem d11_10 : decode jdk_68_method_9_code 10 = .ok (.istore_n 2, 1) := by decide +kernel
theorem d11_11 : decode jdk_68_method_9_code 11 = .ok (.iload_n 1, 1) := by decide +kernel
theorem d11_12 : decode jdk_68_method_9_code 12 = .ok (.iload_n 2, 1) := by decide +kernel
theorem d11_13 : decode jdk_68_method_9_code 13 = .ok (.isub, 1) := by decide +kernel
theorem d11_14 : decode jdk_68_method_9_code 14 = .ok (.ifCond .le 24, 3) := by decide +kernel
theorem d11_17 : decode jdk_68_method_9_code 17 = .ok (.aload_n 0, 1) := by decide +kernel
theorem d11_18 : decode jdk_68_method_9_code 18 = .ok (.aload_n 0, 1) := by decide +kernel
theorem d11_19 : decode jdk_68_method_9_code 19 = .ok (.getfield 15, 3) := by decide +kernel
theorem d11_22 : decode jdk_68_method_9_code 22 = .ok (.aload_n 0, 1) := by decide +kernel
theorem d11_23 : decode jdk_68_method_9_code 23 = .ok (.iload_n 1, 1) := by decide +kernel
theorem d11_24 : decode jdk_68_method_9_code 24 = .ok (.invokevirtual 104, 3) := by decide +kernel
theorem d11_27 : decode jdk_68_method_9_code 27 = .ok (.aload_n 0, 1) := by decide +kernel
theorem d11_28 : decode jdk_68_method_9_code 28 = .ok (.getfield 22, 3) := by decide +kernel
theorem d11_31 : decode jdk_68_method_9_code 31 = .ok (.ishl, 1) := by decide +kernel
theorem d11_32 : decode jdk_68_method_9_code 32 = .ok (.invokestatic 108, 3) := by decide +kernel
theorem d11_35 : decode jdk_68_method_9_code 35 = .ok (.putfield 15, 3) := by decide +kernel
theorem d11_38 : decode jdk_68_method_9_code 38 = .ok (.return_, 1) := by decide +kernel
theorem ef_rm11a8 (m : MethodId) (b2 : Addr) : entryFrame m #[(.ref b2), (.int (18 : Int32))] 3 = mkF m 0 #[.val (.ref b2), .val (.int (18 : Int32)), .unset] [] := by first | (simp [entryFrame, mkF, argsToLocals, Value.category]; done) | rfl
def Q11a8 (Z : State) (b2 : Addr) (b13a : Addr) (k13b : ClassId) (h0 : Heap) (n0 : Nat) (v : Option Value) (h : Heap) (L : List Loc) : Prop := ∃ (b35a : Addr) (k35b : ClassId), v = none ∧ Fr n0 L ∧ Keep h0 h [b2] ∧ n0 ≤ b35a ∧ h0.size ≤ b35a ∧ Fld Z h b2 "java/lang/AbstractStringBuilder" "value" "[B" (.ref b35a) ∧ Fld Z h b2 "java/lang/AbstractStringBuilder" "coder" "B" (.int (0 : Int32)) ∧ Fld Z h b2 "java/lang/AbstractStringBuilder" "count" "I" (.int (0 : Int32)) ∧ Arv Z h b35a k35b .byte (34 : Int32) own_ls3 (.int (0 : Int32))
set_option maxRecDepth 65536 in
set_option maxHeartbeats 40000000 in
theorem rm11a8 (l : Launch) (Z : State) (a0 : Array Value) (hw : ∀ d ∈ tables_1, d.before a0 Z = true) (ws : List Jvm.Cond) (b2 : Addr) (b13a : Addr) (k13b : ClassId) (h0 : Heap) (n0 : Nat) (Z0 : n0 ≤ h0.size) (PE7 : Exa Z h0 b2 "java/lang/StringBuilder") (PF8 : Fld Z h0 b2 "java/lang/AbstractStringBuilder" "value" "[B" (.ref b13a)) (PF9 : Fld Z h0 b2 "java/lang/AbstractStringBuilder" "coder" "B" (.int (0 : Int32))) (PF10 : Fld Z h0 b2 "java/lang/AbstractStringBuilder" "count" "I" (.int (0 : Int32))) (PV11 : Arv Z h0 b13a k13b .byte (16 : Int32) own_ls1 (.int (0 : Int32))) (n_b2 : n0 ≤ b2) :
    MetFree l mn11 (head1 (Jvm.Cond.code mn11 jdk_68_method_9_code 3 none :: ws) ({ frames := 3, cells := 1, slots := 34, locals := 48 } : Room)) (fun a U => a = #[(.ref b2), (.int (18 : Int32))] ∧ Z.Warmed39 U.vm ∧ U.heap = h0) (fun _ _ _ _ _ => True) (fun _ U o U' => ∃ v L, o = .returned v ∧ Q11a8 Z b2 b13a k13b h0 n0 v U'.heap L ∧ FrameEnd U o U' L ({ frames := 3, cells := 1, slots := 34, locals := 48 } : Room).cells ({ frames := 3, cells := 1, slots := 34, locals := 48 } : Room).slots) := by
  refine MetFree.of_bodySF (plainFor_of_name pn_3) hisR ?_
  intro p e s m args below meth c s₁ Bd hml0 hP hK
  obtain ⟨rfl, hZ, hh⟩ := hP
  have hx := Bd.exec
  have hby := Bd.bytes
  have hml : c.maxLocals = 3 := hml0
  have hown : s.vm.findClass "java/lang/AbstractStringBuilder" = some m.cls := findClass_of_methodNamed Bd.named
  have hnm := (name_of_methodNamed Bd.named Bd.method).1
  have X0 : Stand p l e ({ frames := 3, cells := 1, slots := 34, locals := 48 } : Room) s m #[(.ref b2), (.int (18 : Int32))] below meth c s₁ [] 0 0 := Stand.of_body Bd
  have e0 : s₁.heap = h0 := by rw [← hh, Bd.state]; rfl
  have N0 := Fr.nil n0
  show own_Ends p e below s (Q11a8 Z b2 b13a k13b h0 n0) _ _ s₁ _
  rw [ef_rm11a8 m b2]
  refine own_go (T' := s₁) (f' := (mkF m 1 #[.val (.ref b2), .val (.int (18 : Int32)), .unset] [(.ref b2)])) (fun _ k => XS.aloadN X0.here hx rfl (hb hby d11_0) rfl rfl k) ?_
  obtain ⟨T21, X21, e21, st21⟩ := getF X0 hx hZ hown (host := "") (Or.inl (ow45 hw)) Via.refl e0 PF8 (g := (mkF m 1 #[.val (.ref b2), .val (.int (18 : Int32)), .unset] [(.ref b2)])) rfl rfl (hb hby d11_1)
  refine own_go (T' := T21) (f' := (mkF m 6 #[.val (.ref b2), .val (.int (18 : Int32)), .unset] [(.ref b2), (.int (16 : Int32))])) (fun _ k => st21 _ (own_alen X21 hx hZ e21 PV11 rfl rfl (hb hby d11_4) (XS.aloadN X21.here hx rfl (hb hby d11_5) rfl rfl k))) ?_
  obtain ⟨T22, X22, e22, st22⟩ := getF X21 hx hZ hown (host := "") (Or.inl (ow47 hw)) Via.refl e21 PF9 (g := (mkF m 6 #[.val (.ref b2), .val (.int (18 : Int32)), .unset] [(.ref b2), (.int (16 : Int32))])) rfl rfl (hb hby d11_6)
  refine own_go (T' := T22) (f' := (mkF m 14 #[.val (.ref b2), .val (.int (18 : Int32)), .val (.int (16 : Int32))] [(.int (2 : Int32))])) (fun _ k => st22 _ (XS.ishr X22.here hx rfl (hb hby d11_9) rfl (XS.istoreN X22.here hx rfl (hb hby d11_10) rfl (l' := #[.val (.ref b2), .val (.int (18 : Int32)), .val (.int (16 : Int32))]) rfl (XS.iloadN X22.here hx rfl (hb hby d11_11) rfl (XS.iloadN X22.here hx rfl (hb hby d11_12) rfl (XS.isub X22.here hx rfl (hb hby d11_13) rfl k)))))) ?_
  refine own_go (T' := T22) (f' := (mkF m 19 #[.val (.ref b2), .val (.int (18 : Int32)), .val (.int (16 : Int32))] [(.ref b2), (.ref b2)])) (fun _ k => XS.ifNo X22.here hx rfl (hb hby d11_14) rfl ((if0 _ _).trans (tlt (by decide : ((0 : Int32) < (2 : Int32)))).2.2.2) (XS.aloadN X22.here hx rfl (hb hby d11_17) rfl rfl (XS.aloadN X22.here hx rfl (hb hby d11_18) rfl rfl k))) ?_
  obtain ⟨T23, X23, e23, st23⟩ := getF X22 hx hZ hown (host := "") (Or.inl (ow45 hw)) Via.refl e22 PF8 (g := (mkF m 19 #[.val (.ref b2), .val (.int (18 : Int32)), .val (.int (16 : Int32))] [(.ref b2), (.ref b2)])) rfl rfl (hb hby d11_19)
  refine own_go (T' := T23) (f' := (mkF m 24 #[.val (.ref b2), .val (.int (18 : Int32)), .val (.int (16 : Int32))] [(.int (18 : Int32)), (.ref b2), (.ref b13a), (.ref b2)])) (fun _ k => st23 _ (XS.aloadN X23.here hx rfl (hb hby d11_22) rfl rfl (XS.iloadN X23.here hx rfl (hb hby d11_23) rfl k))) ?_
  obtain ⟨cq30, q30, q30'⟩ := PE7.cell
  obtain ⟨_, _, ⟨T30, L30, k30, n30⟩, -, X30, ⟨Lc30, hQ30, l30, y30, z30⟩, st30⟩ := X23.privateBack hx (y := mn8) hown (mvT hZ (ow80 hw)) (mvT hZ (ow81 hw)) (own_selp (mvT hZ (ow83 hw)) (Cond.privateMethod_at (mvP hZ (ow82 hw) (args := #[]))) (mvT hZ (ow81 hw)) (by decide)) (Cond.privateMethod_at (mvP hZ (ow82 hw) (args := #[]))) (mvT hZ (ow84 hw)) (by decide) (backOf (W := 2) (rm12a9 l Z a0 hw [] b2 b13a k13b h0 n0 Z0 PF8 PF9 PV11) hZ (ow84 hw) (ow41 hw) (by decide) (by decide)) (g := (mkF m 24 #[.val (.ref b2), .val (.int (18 : Int32)), .val (.int (16 : Int32))] [(.int (18 : Int32)), (.ref b2), (.ref b13a), (.ref b2)])) rfl (by rw [hml]; rfl) (Steps.refl _) (a := b2) (by rw [e23]; exact q30) q30' (argsL := [(.int (18 : Int32))]) (rest := [(.ref b13a), (.ref b2)]) (lenOf pd8 rfl) rfl (by show 2 * 0 + _ ≤ _; exact Nat.le_of_eq rfl) (hb hby d11_24) (fun _ _ => ⟨rfl, e23, (by decide : 0 + 0 ≤ _), (by decide : 0 + 0 ≤ _)⟩)
  dsimp only [Pt.U, Pt.locs, Pt.cells, Pt.slots] at X30 l30 y30 z30 st30 hQ30
  subst l30 y30 z30
  obtain ⟨rfl, N30q, hh30⟩ := hQ30
  have N30 := Fr.app N0 N30q
  refine own_go (T' := T30) (f' := (mkF m 28 #[.val (.ref b2), .val (.int (18 : Int32)), .val (.int (16 : Int32))] [(.ref b2), (.int (34 : Int32)), (.ref b13a), (.ref b2)])) (fun _ k => st30.trans (XS.aloadN X30.here hx rfl (hb hby d11_27) rfl rfl k)) ?_
  obtain ⟨T31, X31, e31, st31⟩ := getF X30 hx hZ hown (host := "") (Or.inl (ow47 hw)) Via.refl hh30 PF9 (g := (mkF m 28 #[.val (.ref b2), .val (.int (18 : Int32)), .val (.int (16 : Int32))] [(.ref b2), (.int (34 : Int32)), (.ref b13a), (.ref b2)])) rfl rfl (hb hby d11_28)
  refine own_go (T' := T31) (f' := (mkF m 32 #[.val (.ref b2), .val (.int (18 : Int32)), .val (.int (16 : Int32))] [(.int (34 : Int32)), (.ref b13a), (.ref b2)])) (fun _ k => st31 _ (XS.ishl X31.here hx rfl (hb hby d11_31) rfl k)) ?_
  obtain ⟨_, _, ⟨T35, L35, k35, n35⟩, -, X35, ⟨Lc35, hQ35, l35, y35, z35⟩, st35⟩ := Jvm.LawKit.callS X31 hx (y := mn10) hown (mvT hZ (ow95 hw)) (mvT hZ (ow96 hw)) (mvT hZ (ow97 hw)) (mvT hZ (ow98 hw)) (by decide) (backOf (W := 1) (rm15a12 l Z a0 hw [] b13a k13b h0 n0 Z0 PV11) hZ (ow98 hw) (ow97 hw) (by decide) (by decide)) (g := (mkF m 32 #[.val (.ref b2), .val (.int (18 : Int32)), .val (.int (16 : Int32))] [(.int (34 : Int32)), (.ref b13a), (.ref b2)])) rfl (by rw [hml]; rfl) (argsL := [(.ref b13a), (.int (34 : Int32))]) (rest := [(.ref b2)]) (lenOf pd25 rfl) rfl (by show 2 * 0 + _ ≤ _; exact Nat.le_of_eq rfl) (hb hby d11_32) (fun _ _ => ⟨rfl, e31, (by decide : 0 + 1 ≤ _), (by decide : 0 + 34 ≤ _)⟩)
  dsimp only [Pt.U, Pt.locs, Pt.cells, Pt.slots] at X35 l35 y35 z35 st35 hQ35
  subst l35 y35 z35
  obtain ⟨b35a, k35b, rfl, N35q, K35, n_b35a, sg_b35a, g35_0⟩ := hQ35
  have N35 := Fr.app N30 N35q
  have sz_b35a : h0.size ≤ b35a := Nat.le_trans (Keep.refl h0 [b2]).1 sg_b35a
  have eK35 : T35.heap = T35.heap := rfl
  have KK35 : Keep h0 T35.heap [b2] := Keep.trans (Keep.refl h0 [b2]) K35 all0
  refine own_go (T' := T35) (f' := (mkF m 35 #[.val (.ref b2), .val (.int (18 : Int32)), .val (.int (16 : Int32))] [(.ref b35a), (.ref b2)])) (fun _ k => st35 _ k) ?_
  obtain ⟨T36, h36, X36, e36, W36, st36⟩ := putF X35 hx hZ hown (host := "") (Or.inl (ow45 hw)) Via.refl eK35 (PF8.keep K35 nin0) (PE7.keep K35) (Or.inl (ow46 hw)) (ow32 hw) (ty := (.array .byte)) (by decide) rfl rfl (g := (mkF m 35 #[.val (.ref b2), .val (.int (18 : Int32)), .val (.int (16 : Int32))] [(.ref b35a), (.ref b2)])) rfl rfl (hb hby d11_35)
  have Fw36 := Fld.same W36 (PF8.keep K35 nin0)
  have K36 : Keep h0 h36 [b2] := KK35.wr W36 (Or.inl (List.mem_of_getElem? (i := 0) rfl))
  have N36 := Fr.snoc X36 N35 n_b2
  refine own_go (T' := T36) (f' := (mkF m 38 #[.val (.ref b2), .val (.int (18 : Int32)), .val (.int (16 : Int32))] [])) (fun _ k => st36 _ k) ?_
  refine own_ret X36 (v := none) (fun _ => rfl) Bd.notSynchronized (fun fs hr => X36.returnOut hx Bd.returns (hb hby d11_38) hr) ?_ (by decide) (by decide)
  show Q11a8 Z b2 b13a k13b h0 n0 _ T36.heap _
  have G37 := ((PF9.keep K35 nin0).other W36 (Or.inr (slot_ne (Or.inl (ow48 hw)) (Or.inl (ow46 hw)) (by decide) (t := .byte) (t' := (.array .byte)) (by decide) (by decide))))
  have G38 := ((PF10.keep K35 nin0).other W36 (Or.inr (slot_ne (Or.inl (ow74 hw)) (Or.inl (ow46 hw)) (by decide) (t := .int) (t' := (.array .byte)) (by decide) (by decide))))
  rw [e36]
  exact ⟨b35a, k35b, rfl, N36, K36, n_b35a, sz_b35a, Fw36, G37, G38, (g35_0.other W36 (Ne.symm (Nat.ne_of_lt (Nat.lt_of_lt_of_le PE7.lt sg_b35a))))⟩
theorem d18_0 : decode jdk_68_method_71_code 0 = .ok (.getstatic 18, 3) := by decide +kernel
theorem d18_3 : decode jdk_68_method_71_code 3 = .ok (.ifCond .eq 18, 3) := by decide +kernel
theorem d18_6 : decode jdk_68_method_71_code 6 = .ok (.aload_n 0, 1) := by decide +kernel
theorem d18_7 : decode jdk_68_method_71_code 7 = .ok (.getfield 22, 3) := by decide +kernel
theorem d18_10 : decode jdk_68_method_71_code 10 = .ok (.aload_n 1, 1) := by decide +kernel
theorem d18_11 : decode jdk_68_method_71_code 11 = .ok (.invokevirtual 40, 3) := by decide +kernel
theorem d18_14 : decode jdk_68_method_71_code 14 = .ok (.if_icmp .eq 7, 3) := by decide +kernel
theorem d18_21 : decode jdk_68_method_71_code 21 = .ok (.return_, 1) := by decide +kernel
theorem ef_rm18a15 (m : MethodId) (b2 : Addr) (a14 : Addr) : entryFrame m #[(.ref b2), (.ref a14)] 2 = mkF m 0 #[.val (.ref b2), .val (.ref a14)] [] := by first | (simp [entryFrame, mkF, argsToLocals, Value.category]; done) | rfl
def Q18a15 (Z : State) (b2 : Addr) (a14 : Addr) (cs : Int32) (h0 : Heap) (n0 : Nat) (v : Option Value) (h : Heap) (L : List Loc) : Prop := v = none ∧ Fr n0 L ∧ h = h0
set_option maxRecDepth 65536 in
set_option maxHeartbeats 40000000 in
theorem rm18a15 (l : Launch) (Z : State) (a0 : Array Value) (hw : ∀ d ∈ tables_1, d.before a0 Z = true) (ws : List Jvm.Cond) (b2 : Addr) (a14 : Addr) (cs : Int32) (h0 : Heap) (n0 : Nat) (Z0 : n0 ≤ h0.size) (PS0 : Sta Z h0 "java/lang/String" "COMPACT_STRINGS" "Z" (.int cs)) (PF9 : Fld Z h0 b2 "java/lang/AbstractStringBuilder" "coder" "B" (.int (0 : Int32))) (PE12 : Exa Z h0 a14 "java/lang/String") (PF13 : Fld Z h0 a14 "java/lang/String" "coder" "B" (.int (0 : Int32))) (PP0 : ¬ (cs = (0 : Int32))) :
    MetFree l mn12 (head1 (Jvm.Cond.code mn12 jdk_68_method_71_code 2 none :: ws) ({ frames := 1, cells := 0, slots := 0, locals := 13 } : Room)) (fun a U => a = #[(.ref b2), (.ref a14)] ∧ Z.Warmed39 U.vm ∧ U.heap = h0) (fun _ _ _ _ _ => True) (fun _ U o U' => ∃ v L, o = .returned v ∧ Q18a15 Z b2 a14 cs h0 n0 v U'.heap L ∧ FrameEnd U o U' L ({ frames := 1, cells := 0, slots := 0, locals := 13 } : Room).cells ({ frames := 1, cells := 0, slots := 0, locals := 13 } : Room).slots) := by
  refine MetFree.of_bodySF (plainFor_of_name pn_3) hisR ?_
  intro p e s m args below meth c s₁ Bd hml0 hP hK
  obtain ⟨rfl, hZ, hh⟩ := hP
  have hx := Bd.exec
  have hby := Bd.bytes
  have hml : c.maxLocals = 2 := hml0
  have hown : s.vm.findClass "java/lang/AbstractStringBuilder" = some m.cls := findClass_of_methodNamed Bd.named
  have hnm := (name_of_methodNamed Bd.named Bd.method).1
  have X0 : Stand p l e ({ frames := 1, cells := 0, slots := 0, locals := 13 } : Room) s m #[(.ref b2), (.ref a14)] below meth c s₁ [] 0 0 := Stand.of_body Bd
  have e0 : s₁.heap = h0 := by rw [← hh, Bd.state]; rfl
  have N0 := Fr.nil n0
  show own_Ends p e below s (Q18a15 Z b2 a14 cs h0 n0) _ _ s₁ _
  rw [ef_rm18a15 m b2 a14]
  obtain ⟨T41, X41, e41, st41⟩ := getS2 X0 hx hZ hown (host := "") (Or.inl (ow44 hw)) Via.refl e0 PS0 (g := (mkF m 0 #[.val (.ref b2), .val (.ref a14)] [])) rfl (hb hby d18_0)
  refine own_go (T' := T41) (f' := (mkF m 7 #[.val (.ref b2), .val (.ref a14)] [(.ref b2)])) (fun _ k => st41 _ (XS.ifNo X41.here hx rfl (hb hby d18_3) rfl ((if0 _ _).trans (feq PP0).1) (XS.aloadN X41.here hx rfl (hb hby d18_6) rfl rfl k))) ?_
  obtain ⟨T42, X42, e42, st42⟩ := getF X41 hx hZ hown (host := "") (Or.inl (ow47 hw)) Via.refl e41 PF9 (g := (mkF m 7 #[.val (.ref b2), .val (.ref a14)] [(.ref b2)])) rfl rfl (hb hby d18_7)
  refine own_go (T' := T42) (f' := (mkF m 11 #[.val (.ref b2), .val (.ref a14)] [(.ref a14), (.int (0 : Int32))])) (fun _ k => st42 _ (XS.aloadN X42.here hx rfl (hb hby d18_10) rfl rfl k)) ?_
  obtain ⟨cq43, kq43, q43a, q43b, q43c⟩ := isOf hZ e42 PE12
  obtain ⟨_, _, ⟨T43, L43, k43, n43⟩, -, X43, ⟨Lc43, hQ43, l43, y43, z43⟩, st43⟩ := X42.virtualBack hx (y := mn4) (z := mn4) hown (mvT hZ (ow116 hw)) (mvT hZ (ow67 hw)) (notFace_of_selects (args := #[]) (mvT hZ (ow69 hw))) (mvT hZ (ow69 hw)) (mvT hZ (ow68 hw)) (by decide) (backOf (W := 1) (rm10a7 l Z a0 hw [] a14 cs h0 n0 Z0 PS0 PF13 PP0) hZ (ow70 hw) (ow9 hw) (by decide) (by decide)) q43a q43c (g := (mkF m 11 #[.val (.ref b2), .val (.ref a14)] [(.ref a14), (.int (0 : Int32))])) rfl (by rw [hml]; rfl) (Steps.refl _) (argsL := []) (rest := [(.int (0 : Int32))]) (lenOf pd0 rfl) rfl (by show 2 * 0 + _ ≤ _; exact Nat.le_of_eq rfl) (hb hby d18_11) (fun _ _ => ⟨rfl, e42, (by decide : 0 + 0 ≤ _), (by decide : 0 + 0 ≤ _)⟩)
  dsimp only [Pt.U, Pt.locs, Pt.cells, Pt.slots] at X43 l43 y43 z43 st43 hQ43
  subst l43 y43 z43
  obtain ⟨rfl, N43q, hh43⟩ := hQ43
  have N43 := Fr.app N0 N43q
  refine own_go (T' := T43) (f' := (mkF m 21 #[.val (.ref b2), .val (.ref a14)] [])) (fun _ k => st43.trans (XS.icmpYes X43.here hx rfl (pc0 := 14) (pc' := 21) rfl (hb hby d18_14) rfl (teq (by decide : ((0 : Int32) = (0 : Int32)))).1 (by decide) (by decide) k)) ?_
  refine own_ret X43 (v := none) (fun _ => rfl) Bd.notSynchronized (fun fs hr => X43.returnOut hx Bd.returns (hb hby d18_21) hr) ?_ (by decide) (by decide)
  show Q18a15 Z b2 a14 cs h0 n0 _ T43.heap _
  exact ⟨rfl, N43, hh43⟩
theorem pd23 : parseMethodDescriptor "(Ljava/lang/String;)V" = some ⟨[(.object "java/lang/String")], none⟩ := by decide +kernel
theorem d19_0 : decode jdk_42_method_147_code 0 = .ok (.aload_n 0, 1) := by decide +kernel
theorem d19_1 : decode jdk_42_method_147_code 1 = .ok (.invokevirtual 335, 3) := by decide +kernel
theorem d19_4 : decode jdk_42_method_147_code 4 = .ok (.iload_n 3, 1) := by decide +kernel
theorem d19_5 : decode jdk_42_method_147_code 5 = .ok (.if_icmp .ne 23, 3) := by decide +kernel
theorem d19_8 : decode jdk_42_method_147_code 8 = .ok (.aload_n 0, 1) := by decide +kernel
theorem d19_9 : decode jdk_42_method_147_code 9 = .ok (.getfield 9, 3) := by decide +kernel
theorem d19_12 : decode jdk_42_method_147_code 12 = .ok (.iconst 0, 1) := by decide +kernel
theorem d19_13 : decode jdk_42_method_147_code 13 = .ok (.aload_n 1, 1) := by decide +kernel
theorem d19_14 : decode jdk_42_method_147_code 14 = .ok (.iload_n 2, 1) := by decide +kernel
theorem d19_15 : decode jdk_42_method_147_code 15 = .ok (.iload_n 3, 1) := by decide +kernel
theorem d19_16 : decode jdk_42_method_147_code 16 = .ok (.ishl, 1) := by decide +kernel
theorem d19_17 : decode jdk_42_method_147_code 17 = .ok (.aload_n 0, 1) := by decide +kernel
theorem d19_18 : decode jdk_42_method_147_code 18 = .ok (.getfield 9, 3) := by decide +kernel
theorem d19_21 : decode jdk_42_method_147_code 21 = .ok (.arraylength, 1) := by decide +kernel
theorem d19_22 : decode jdk_42_method_147_code 22 = .ok (.invokestatic 212, 3) := by decide +kernel
theorem d19_25 : decode jdk_42_method_147_code 25 = .ok (.goto 18, 3) := by decide +kernel
theorem d19_43 : decode jdk_42_method_147_code 43 = .ok (.return_, 1) := by decide +kernel
theorem ef_rm19a16 (m : MethodId) (a14 : Addr) (b39a : Addr) : entryFrame m #[(.ref a14), (.ref b39a), (.int (0 : Int32)), (.int (0 : Int32))] 4 = mkF m 0 #[.val (.ref a14), .val (.ref b39a), .val (.int (0 : Int32)), .val (.int (0 : Int32))] [] := by first | (simp [entryFrame, mkF, argsToLocals, Value.category]; done) | rfl
def Q19a16 (Z : State) (a14 : Addr) (b39a : Addr) (cs : Int32) (b14 : Addr) (kc14 : ClassId) (k39b : ClassId) (h0 : Heap) (n0 : Nat) (v : Option Value) (h : Heap) (L : List Loc) : Prop := v = none ∧ Fr n0 L ∧ Keep h0 h [b39a] ∧ Arv Z h b39a k39b .byte (34 : Int32) own_ls4 (.int (0 : Int32))
set_option maxRecDepth 65536 in
set_option maxHeartbeats 40000000 in
theorem rm19a16 (l : Launch) (Z : State) (a0 : Array Value) (hw : ∀ d ∈ tables_1, d.before a0 Z = true) (ws : List Jvm.Cond) (a14 : Addr) (b39a : Addr) (cs : Int32) (b14 : Addr) (kc14 : ClassId) (k39b : ClassId) (h0 : Heap) (n0 : Nat) (Z0 : n0 ≤ h0.size) (PS0 : Sta Z h0 "java/lang/String" "COMPACT_STRINGS" "Z" (.int cs)) (PE12 : Exa Z h0 a14 "java/lang/String") (PF13 : Fld Z h0 a14 "java/lang/String" "coder" "B" (.int (0 : Int32))) (PF14 : Fld Z h0 a14 "java/lang/String" "value" "[B" (.ref b14)) (PV15 : Arv Z h0 b14 kc14 .byte (18 : Int32) own_ls2 (.int (0 : Int32))) (PV16 : Arv Z h0 b39a k39b .byte (34 : Int32) own_ls3 (.int (0 : Int32))) (PP0 : ¬ (cs = (0 : Int32))) (n_b39a : n0 ≤ b39a) :
    MetFree l mn13 (head1 (Jvm.Cond.code mn13 jdk_42_method_147_code 4 none :: ws) ({ frames := 1, cells := 0, slots := 0, locals := 18 } : Room)) (fun a U => a = #[(.ref a14), (.ref b39a), (.int (0 : Int32)), (.int (0 : Int32))] ∧ Z.Warmed39 U.vm ∧ U.heap = h0) (fun _ _ _ _ _ => True) (fun _ U o U' => ∃ v L, o = .returned v ∧ Q19a16 Z a14 b39a cs b14 kc14 k39b h0 n0 v U'.heap L ∧ FrameEnd U o U' L ({ frames := 1, cells := 0, slots := 0, locals := 18 } : Room).cells ({ frames := 1, cells := 0, slots := 0, locals := 18 } : Room).slots) := by
  refine MetFree.of_bodySF (plainFor_of_name pn_7) hisR ?_
  intro p e s m args below meth c s₁ Bd hml0 hP hK
  obtain ⟨rfl, hZ, hh⟩ := hP
  have hx := Bd.exec
  have hby := Bd.bytes
  have hml : c.maxLocals = 4 := hml0
  have hown : s.vm.findClass "java/lang/String" = some m.cls := findClass_of_methodNamed Bd.named
  have hnm := (name_of_methodNamed Bd.named Bd.method).1
  have X0 : Stand p l e ({ frames := 1, cells := 0, slots := 0, locals := 18 } : Room) s m #[(.ref a14), (.ref b39a), (.int (0 : Int32)), (.int (0 : Int32))] below meth c s₁ [] 0 0 := Stand.of_body Bd
  have e0 : s₁.heap = h0 := by rw [← hh, Bd.state]; rfl
  have N0 := Fr.nil n0
  show own_Ends p e below s (Q19a16 Z a14 b39a cs b14 kc14 k39b h0 n0) _ _ s₁ _
  rw [ef_rm19a16 m a14 b39a]
  refine own_go (T' := s₁) (f' := (mkF m 1 #[.val (.ref a14), .val (.ref b39a), .val (.int (0 : Int32)), .val (.int (0 : Int32))] [(.ref a14)])) (fun _ k => XS.aloadN X0.here hx rfl (hb hby d19_0) rfl rfl k) ?_
  obtain ⟨cq47, kq47, q47a, q47b, q47c⟩ := isOf hZ e0 PE12
  obtain ⟨_, _, ⟨T47, L47, k47, n47⟩, -, X47, ⟨Lc47, hQ47, l47, y47, z47⟩, st47⟩ := X0.virtualBack hx (y := mn4) (z := mn4) hown (mvT hZ (ow66 hw)) (mvT hZ (ow67 hw)) (notFace_of_selects (args := #[]) (mvT hZ (ow69 hw))) (mvT hZ (ow69 hw)) (mvT hZ (ow68 hw)) (by decide) (backOf (W := 0) (rm10a7 l Z a0 hw [] a14 cs h0 n0 Z0 PS0 PF13 PP0) hZ (ow70 hw) (ow9 hw) (by decide) (by decide)) q47a q47c (g := (mkF m 1 #[.val (.ref a14), .val (.ref b39a), .val (.int (0 : Int32)), .val (.int (0 : Int32))] [(.ref a14)])) rfl (by rw [hml]; rfl) (Steps.refl _) (argsL := []) (rest := []) (lenOf pd0 rfl) rfl (by show 2 * 0 + _ ≤ _; exact Nat.le_of_eq rfl) (hb hby d19_1) (fun _ _ => ⟨rfl, e0, (by decide : 0 + 0 ≤ _), (by decide : 0 + 0 ≤ _)⟩)
  dsimp only [Pt.U, Pt.locs, Pt.cells, Pt.slots] at X47 l47 y47 z47 st47 hQ47
  subst l47 y47 z47
  obtain ⟨rfl, N47q, hh47⟩ := hQ47
  have N47 := Fr.app N0 N47q
  refine own_go (T' := T47) (f' := (mkF m 9 #[.val (.ref a14), .val (.ref b39a), .val (.int (0 : Int32)), .val (.int (0 : Int32))] [(.ref a14)])) (fun _ k => st47.trans (XS.iloadN X47.here hx rfl (hb hby d19_4) rfl (XS.icmpNo X47.here hx rfl (hb hby d19_5) rfl (teq (by decide : ((0 : Int32) = (0 : Int32)))).2 (XS.aloadN X47.here hx rfl (hb hby d19_8) rfl rfl k)))) ?_
  obtain ⟨T48, X48, e48, st48⟩ := getF X47 hx hZ hown (host := "") (Or.inl (ow65 hw)) Via.refl hh47 PF14 (g := (mkF m 9 #[.val (.ref a14), .val (.ref b39a), .val (.int (0 : Int32)), .val (.int (0 : Int32))] [(.ref a14)])) rfl rfl (hb hby d19_9)
  refine own_go (T' := T48) (f' := (mkF m 17 #[.val (.ref a14), .val (.ref b39a), .val (.int (0 : Int32)), .val (.int (0 : Int32))] [(.int (0 : Int32)), (.ref b39a), (.int (0 : Int32)), (.ref b14)])) (fun _ k => st48 _ (XS.iconst X48.here hx rfl (hb hby d19_12) (XS.aloadN X48.here hx rfl (hb hby d19_13) rfl rfl (XS.iloadN X48.here hx rfl (hb hby d19_14) rfl (XS.iloadN X48.here hx rfl (hb hby d19_15) rfl (XS.ishl X48.here hx rfl (hb hby d19_16) rfl k)))))) ?_
  refine own_go (T' := T48) (f' := (mkF m 18 #[.val (.ref a14), .val (.ref b39a), .val (.int (0 : Int32)), .val (.int (0 : Int32))] [(.ref a14), (.int (0 : Int32)), (.ref b39a), (.int (0 : Int32)), (.ref b14)])) (fun _ k => XS.aloadN X48.here hx rfl (hb hby d19_17) rfl rfl k) ?_
  obtain ⟨T49, X49, e49, st49⟩ := getF X48 hx hZ hown (host := "") (Or.inl (ow65 hw)) Via.refl e48 PF14 (g := (mkF m 18 #[.val (.ref a14), .val (.ref b39a), .val (.int (0 : Int32)), .val (.int (0 : Int32))] [(.ref a14), (.int (0 : Int32)), (.ref b39a), (.int (0 : Int32)), (.ref b14)])) rfl rfl (hb hby d19_18)
  refine own_go (T' := T49) (f' := (mkF m 22 #[.val (.ref a14), .val (.ref b39a), .val (.int (0 : Int32)), .val (.int (0 : Int32))] [(.int (18 : Int32)), (.int (0 : Int32)), (.ref b39a), (.int (0 : Int32)), (.ref b14)])) (fun _ k => st49 _ (own_alen X49 hx hZ e49 PV15 rfl rfl (hb hby d19_21) k)) ?_
  obtain ⟨T50, h50, Lq50, X50, e50, N50, K50, V50, st50⟩ := cpA X49 hx hZ hown (ow122 hw) (ow105 hw) (ow103 hw) (ow104 hw) e49 PV15 PV16 (Or.inl ⟨rfl, rfl⟩) (sp := (0 : Int32)) (dp := (0 : Int32)) (nn := (18 : Int32)) (by decide) (by decide) (by decide) (by decide) (by decide) (us := own_ls2) rfl (Nat.le_of_ble_eq_true rfl) N47 n_b39a (g := (mkF m 22 #[.val (.ref a14), .val (.ref b39a), .val (.int (0 : Int32)), .val (.int (0 : Int32))] [(.int (18 : Int32)), (.int (0 : Int32)), (.ref b39a), (.int (0 : Int32)), (.ref b14)])) rfl (by rw [hml]; rfl) rfl (hb hby d19_22) (by decide) (W := 0) (by show 2 * 0 + _ ≤ _; exact Nat.le_of_eq rfl) (by decide)
  have V50s : Arv Z h50 b39a k39b .byte (34 : Int32) own_ls4 (.int (0 : Int32)) := V50
  have KK50 : Keep h0 h50 [b39a] := Keep.trans (Keep.refl h0 [b39a]) K50 (allS (Or.inl (List.mem_of_getElem? (i := 0) rfl)) all0)
  refine own_go (T' := T50) (f' := (mkF m 43 #[.val (.ref a14), .val (.ref b39a), .val (.int (0 : Int32)), .val (.int (0 : Int32))] [])) (fun _ k => st50 _ (XS.goto X50.here hx rfl (pc0 := 25) (pc' := 43) rfl (hb hby d19_25) (by decide) (by decide) k)) ?_
  refine own_ret X50 (v := none) (fun _ => rfl) Bd.notSynchronized (fun fs hr => X50.returnOut hx Bd.returns (hb hby d19_43) hr) ?_ (by decide) (by decide)
  show Q19a16 Z a14 b39a cs b14 kc14 k39b h0 n0 _ T50.heap _
  rw [e50]
  exact ⟨rfl, N50, KK50, V50s⟩
theorem pd26 : parseMethodDescriptor "([BIB)V" = some ⟨[(.array .byte), .int, .byte], none⟩ := by decide +kernel
theorem d17_0 : decode jdk_68_method_73_code 0 = .ok (.aload_n 0, 1) := by decide +kernel
theorem d17_1 : decode jdk_68_method_73_code 1 = .ok (.aload_n 2, 1) := by decide +kernel
theorem d17_2 : decode jdk_68_method_73_code 2 = .ok (.invokevirtual 397, 3) := by decide +kernel
theorem d17_5 : decode jdk_68_method_73_code 5 = .ok (.aload_n 2, 1) := by decide +kernel
theorem d17_6 : decode jdk_68_method_73_code 6 = .ok (.aload_n 0, 1) := by decide +kernel
theorem d17_7 : decode jdk_68_method_73_code 7 = .ok (.getfield 15, 3) := by decide +kernel
theorem d17_10 : decode jdk_68_method_73_code 10 = .ok (.iload_n 1, 1) := by decide +kernel
theorem d17_11 : decode jdk_68_method_73_code 11 = .ok (.aload_n 0, 1) := by decide +kernel
theorem d17_12 : decode jdk_68_method_73_code 12 = .ok (.getfield 22, 3) := by decide +kernel
theorem d17_15 : decode jdk_68_method_73_code 15 = .ok (.invokevirtual 399, 3) := by decide +kernel
theorem d17_18 : decode jdk_68_method_73_code 18 = .ok (.return_, 1) := by decide +kernel
theorem ef_rm17a14 (m : MethodId) (b2 : Addr) (a14 : Addr) : entryFrame m #[(.ref b2), (.int (0 : Int32)), (.ref a14)] 3 = mkF m 0 #[.val (.ref b2), .val (.int (0 : Int32)), .val (.ref a14)] [] := by first | (simp [entryFrame, mkF, argsToLocals, Value.category]; done) | rfl
def Q17a14 (Z : State) (b2 : Addr) (a14 : Addr) (cs : Int32) (b39a : Addr) (b14 : Addr) (kc14 : ClassId) (k39b : ClassId) (h0 : Heap) (n0 : Nat) (v : Option Value) (h : Heap) (L : List Loc) : Prop := v = none ∧ Fr n0 L ∧ Keep h0 h [b39a] ∧ Arv Z h b39a k39b .byte (34 : Int32) own_ls4 (.int (0 : Int32))
set_option maxRecDepth 65536 in
set_option maxHeartbeats 40000000 in
theorem rm17a14 (l : Launch) (Z : State) (a0 : Array Value) (hw : ∀ d ∈ tables_1, d.before a0 Z = true) (ws : List Jvm.Cond) (b2 : Addr) (a14 : Addr) (cs : Int32) (b39a : Addr) (b14 : Addr) (kc14 : ClassId) (k39b : ClassId) (h0 : Heap) (n0 : Nat) (Z0 : n0 ≤ h0.size) (PS0 : Sta Z h0 "java/lang/String" "COMPACT_STRINGS" "Z" (.int cs)) (PE7 : Exa Z h0 b2 "java/lang/StringBuilder") (PF8 : Fld Z h0 b2 "java/lang/AbstractStringBuilder" "value" "[B" (.ref b39a)) (PF9 : Fld Z h0 b2 "java/lang/AbstractStringBuilder" "coder" "B" (.int (0 : Int32))) (PE12 : Exa Z h0 a14 "java/lang/String") (PF13 : Fld Z h0 a14 "java/lang/String" "coder" "B" (.int (0 : Int32))) (PF14 : Fld Z h0 a14 "java/lang/String" "value" "[B" (.ref b14)) (PV15 : Arv Z h0 b14 kc14 .byte (18 : Int32) own_ls2 (.int (0 : Int32))) (PV16 : Arv Z h0 b39a k39b .byte (34 : Int32) own_ls3 (.int (0 : Int32))) (PP0 : ¬ (cs = (0 : Int32))) (n_b39a : n0 ≤ b39a) :
    MetFree l mn14 (head1 (Jvm.Cond.code mn14 jdk_68_method_73_code 3 none :: ws) ({ frames := 2, cells := 0, slots := 0, locals := 33 } : Room)) (fun a U => a = #[(.ref b2), (.int (0 : Int32)), (.ref a14)] ∧ Z.Warmed39 U.vm ∧ U.heap = h0) (fun _ _ _ _ _ => True) (fun _ U o U' => ∃ v L, o = .returned v ∧ Q17a14 Z b2 a14 cs b39a b14 kc14 k39b h0 n0 v U'.heap L ∧ FrameEnd U o U' L ({ frames := 2, cells := 0, slots := 0, locals := 33 } : Room).cells ({ frames := 2, cells := 0, slots := 0, locals := 33 } : Room).slots) := by
  refine MetFree.of_bodySF (plainFor_of_name pn_3) hisR ?_
  intro p e s m args below meth c s₁ Bd hml0 hP hK
  obtain ⟨rfl, hZ, hh⟩ := hP
  have hx := Bd.exec
  have hby := Bd.bytes
  have hml : c.maxLocals = 3 := hml0
  have hown : s.vm.findClass "java/lang/AbstractStringBuilder" = some m.cls := findClass_of_methodNamed Bd.named
  have hnm := (name_of_methodNamed Bd.named Bd.method).1
  have X0 : Stand p l e ({ frames := 2, cells := 0, slots := 0, locals := 33 } : Room) s m #[(.ref b2), (.int (0 : Int32)), (.ref a14)] below meth c s₁ [] 0 0 := Stand.of_body Bd
  have e0 : s₁.heap = h0 := by rw [← hh, Bd.state]; rfl
  have N0 := Fr.nil n0
  show own_Ends p e below s (Q17a14 Z b2 a14 cs b39a b14 kc14 k39b h0 n0) _ _ s₁ _
  rw [ef_rm17a14 m b2 a14]
  refine own_go (T' := s₁) (f' := (mkF m 2 #[.val (.ref b2), .val (.int (0 : Int32)), .val (.ref a14)] [(.ref a14), (.ref b2)])) (fun _ k => XS.aloadN X0.here hx rfl (hb hby d17_0) rfl rfl (XS.aloadN X0.here hx rfl (hb hby d17_1) rfl rfl k)) ?_
  obtain ⟨cq44, q44, q44'⟩ := PE7.cell
  obtain ⟨_, _, ⟨T44, L44, k44, n44⟩, -, X44, ⟨Lc44, hQ44, l44, y44, z44⟩, st44⟩ := X0.privateBack hx (y := mn12) hown (mvT hZ (ow111 hw)) (mvT hZ (ow112 hw)) (own_selp (mvT hZ (ow114 hw)) (Cond.privateMethod_at (mvP hZ (ow113 hw) (args := #[]))) (mvT hZ (ow112 hw)) (by decide)) (Cond.privateMethod_at (mvP hZ (ow113 hw) (args := #[]))) (mvT hZ (ow115 hw)) (by decide) (backOf (W := 0) (rm18a15 l Z a0 hw [] b2 a14 cs h0 n0 Z0 PS0 PF9 PE12 PF13 PP0) hZ (ow115 hw) (ow41 hw) (by decide) (by decide)) (g := (mkF m 2 #[.val (.ref b2), .val (.int (0 : Int32)), .val (.ref a14)] [(.ref a14), (.ref b2)])) rfl (by rw [hml]; rfl) (Steps.refl _) (a := b2) (by rw [e0]; exact q44) q44' (argsL := [(.ref a14)]) (rest := []) (lenOf pd23 rfl) rfl (by show 2 * 0 + _ ≤ _; exact Nat.le_of_eq rfl) (hb hby d17_2) (fun _ _ => ⟨rfl, e0, (by decide : 0 + 0 ≤ _), (by decide : 0 + 0 ≤ _)⟩)
  dsimp only [Pt.U, Pt.locs, Pt.cells, Pt.slots] at X44 l44 y44 z44 st44 hQ44
  subst l44 y44 z44
  obtain ⟨rfl, N44q, hh44⟩ := hQ44
  have N44 := Fr.app N0 N44q
  refine own_go (T' := T44) (f' := (mkF m 7 #[.val (.ref b2), .val (.int (0 : Int32)), .val (.ref a14)] [(.ref b2), (.ref a14)])) (fun _ k => st44.trans (XS.aloadN X44.here hx rfl (hb hby d17_5) rfl rfl (XS.aloadN X44.here hx rfl (hb hby d17_6) rfl rfl k))) ?_
  obtain ⟨T45, X45, e45, st45⟩ := getF X44 hx hZ hown (host := "") (Or.inl (ow45 hw)) Via.refl hh44 PF8 (g := (mkF m 7 #[.val (.ref b2), .val (.int (0 : Int32)), .val (.ref a14)] [(.ref b2), (.ref a14)])) rfl rfl (hb hby d17_7)
  refine own_go (T' := T45) (f' := (mkF m 12 #[.val (.ref b2), .val (.int (0 : Int32)), .val (.ref a14)] [(.ref b2), (.int (0 : Int32)), (.ref b39a), (.ref a14)])) (fun _ k => st45 _ (XS.iloadN X45.here hx rfl (hb hby d17_10) rfl (XS.aloadN X45.here hx rfl (hb hby d17_11) rfl rfl k))) ?_
  obtain ⟨T46, X46, e46, st46⟩ := getF X45 hx hZ hown (host := "") (Or.inl (ow47 hw)) Via.refl e45 PF9 (g := (mkF m 12 #[.val (.ref b2), .val (.int (0 : Int32)), .val (.ref a14)] [(.ref b2), (.int (0 : Int32)), (.ref b39a), (.ref a14)])) rfl rfl (hb hby d17_12)
  refine own_go (T' := T46) (f' := (mkF m 15 #[.val (.ref b2), .val (.int (0 : Int32)), .val (.ref a14)] [(.int (0 : Int32)), (.int (0 : Int32)), (.ref b39a), (.ref a14)])) (fun _ k => st46 _ k) ?_
  obtain ⟨cq51, kq51, q51a, q51b, q51c⟩ := isOf hZ e46 PE12
  obtain ⟨_, _, ⟨T51, L51, k51, n51⟩, -, X51, ⟨Lc51, hQ51, l51, y51, z51⟩, st51⟩ := X46.virtualBack hx (y := mn13) (z := mn13) hown (mvT hZ (ow117 hw)) (mvT hZ (ow118 hw)) (notFace_of_selects (args := #[]) (mvT hZ (ow120 hw))) (mvT hZ (ow120 hw)) (mvT hZ (ow119 hw)) (by decide) (backOf (W := 0) (rm19a16 l Z a0 hw [] a14 b39a cs b14 kc14 k39b h0 n0 Z0 PS0 PE12 PF13 PF14 PV15 PV16 PP0 n_b39a) hZ (ow121 hw) (ow9 hw) (by decide) (by decide)) q51a q51c (g := (mkF m 15 #[.val (.ref b2), .val (.int (0 : Int32)), .val (.ref a14)] [(.int (0 : Int32)), (.int (0 : Int32)), (.ref b39a), (.ref a14)])) rfl (by rw [hml]; rfl) (Steps.refl _) (argsL := [(.ref b39a), (.int (0 : Int32)), (.int (0 : Int32))]) (rest := []) (lenOf pd26 rfl) rfl (by show 2 * 0 + _ ≤ _; exact Nat.le_of_eq rfl) (hb hby d17_15) (fun _ _ => ⟨rfl, e46, (by decide : 0 + 0 ≤ _), (by decide : 0 + 0 ≤ _)⟩)
  dsimp only [Pt.U, Pt.locs, Pt.cells, Pt.slots] at X51 l51 y51 z51 st51 hQ51
  subst l51 y51 z51
  obtain ⟨rfl, N51q, K51, g51_0⟩ := hQ51
  have N51 := Fr.app N44 N51q
  have eK51 : T51.heap = T51.heap := rfl
  have KK51 : Keep h0 T51.heap [b39a] := Keep.trans (Keep.refl h0 [b39a]) K51 (allS (Or.inl (List.mem_of_getElem? (i := 0) rfl)) all0)
  refine own_go (T' := T51) (f' := (mkF m 18 #[.val (.ref b2), .val (.int (0 : Int32)), .val (.ref a14)] [])) (fun _ k => st51.trans k) ?_
  refine own_ret X51 (v := none) (fun _ => rfl) Bd.notSynchronized (fun fs hr => X51.returnOut hx Bd.returns (hb hby d17_18) hr) ?_ (by decide) (by decide)
  show Q17a14 Z b2 a14 cs b39a b14 kc14 k39b h0 n0 _ T51.heap _
  rw [eK51]
  exact ⟨rfl, N51, KK51, g51_0⟩
theorem pd18 : parseMethodDescriptor "(ILjava/lang/String;)V" = some ⟨[.int, (.object "java/lang/String")], none⟩ := by decide +kernel
theorem d8_0 : decode jdk_68_method_22_code 0 = .ok (.aload_n 1, 1) := by decide +kernel
theorem d8_1 : decode jdk_68_method_22_code 1 = .ok (.ifnonnull 8, 3) := by decide +kernel
theorem d8_9 : decode jdk_68_method_22_code 9 = .ok (.aload_n 1, 1) := by decide +kernel
theorem d8_10 : decode jdk_68_method_22_code 10 = .ok (.invokevirtual 32, 3) := by decide +kernel
theorem d8_13 : decode jdk_68_method_22_code 13 = .ok (.istore_n 2, 1) := by decide +kernel
theorem d8_14 : decode jdk_68_method_22_code 14 = .ok (.aload_n 0, 1) := by decide +kernel
theorem d8_15 : decode jdk_68_method_22_code 15 = .ok (.aload_n 0, 1) := by decide +kernel
theorem d8_16 : decode jdk_68_method_22_code 16 = .ok (.getfield 79, 3) := by decide +kernel
theorem d8_19 : decode jdk_68_method_22_code 19 = .ok (.iload_n 2, 1) := by decide +kernel
theorem d8_20 : decode jdk_68_method_22_code 20 = .ok (.iadd, 1) := by decide +kernel
theorem d8_21 : decode jdk_68_method_22_code 21 = .ok (.invokevirtual 100, 3) := by decide +kernel
theorem d8_24 : decode jdk_68_method_22_code 24 = .ok (.aload_n 0, 1) := by decide +kernel
theorem d8_25 : decode jdk_68_method_22_code 25 = .ok (.aload_n 0, 1) := by decide +kernel
theorem d8_26 : decode jdk_68_method_22_code 26 = .ok (.getfield 79, 3) := by decide +kernel
theorem d8_29 : decode jdk_68_method_22_code 29 = .ok (.aload_n 1, 1) := by decide +kernel
theorem d8_30 : decode jdk_68_method_22_code 30 = .ok (.invokevirtual 208, 3) := by decide +kernel
theorem d8_33 : decode jdk_68_method_22_code 33 = .ok (.aload_n 0, 1) := by decide +kernel
theorem d8_34 : decode jdk_68_method_22_code 34 = .ok (.dup, 1) := by decide +kernel
theorem d8_35 : decode jdk_68_method_22_code 35 = .ok (.getfield 79, 3) := by decide +kernel
theorem d8_38 : decode jdk_68_method_22_code 38 = .ok (.iload_n 2, 1) := by decide +kernel
theorem d8_39 : decode jdk_68_method_22_code 39 = .ok (.iadd, 1) := by decide +kernel
theorem d8_40 : decode jdk_68_method_22_code 40 = .ok (.putfield 79, 3) := by decide +kernel
theorem d8_43 : decode jdk_68_method_22_code 43 = .ok (.aload_n 0, 1) := by decide +kernel
theorem d8_44 : decode jdk_68_method_22_code 44 = .ok (.areturn, 1) := by decide +kernel
theorem ef_rm8a5 (m : MethodId) (b2 : Addr) (a14 : Addr) : entryFrame m #[(.ref b2), (.ref a14)] 3 = mkF m 0 #[.val (.ref b2), .val (.ref a14), .unset] [] := by first | (simp [entryFrame, mkF, argsToLocals, Value.category]; done) | rfl
def Q8a5 (Z : State) (b2 : Addr) (a14 : Addr) (cs : Int32) (b13a : Addr) (k13b : ClassId) (b14 : Addr) (kc14 : ClassId) (h0 : Heap) (n0 : Nat) (v : Option Value) (h : Heap) (L : List Loc) : Prop := ∃ (b39a : Addr) (k39b : ClassId), v = some (.ref b2) ∧ Fr n0 L ∧ Keep h0 h [b2] ∧ n0 ≤ b39a ∧ h0.size ≤ b39a ∧ Fld Z h b2 "java/lang/AbstractStringBuilder" "value" "[B" (.ref b39a) ∧ Fld Z h b2 "java/lang/AbstractStringBuilder" "coder" "B" (.int (0 : Int32)) ∧ Fld Z h b2 "java/lang/AbstractStringBuilder" "count" "I" (.int (18 : Int32)) ∧ Arv Z h b39a k39b .byte (34 : Int32) own_ls4 (.int (0 : Int32))
set_option maxRecDepth 65536 in
set_option maxHeartbeats 40000000 in
theorem rm8a5 (l : Launch) (Z : State) (a0 : Array Value) (hw : ∀ d ∈ tables_1, d.before a0 Z = true) (ws : List Jvm.Cond) (b2 : Addr) (a14 : Addr) (cs : Int32) (b13a : Addr) (k13b : ClassId) (b14 : Addr) (kc14 : ClassId) (h0 : Heap) (n0 : Nat) (Z0 : n0 ≤ h0.size) (PS0 : Sta Z h0 "java/lang/String" "COMPACT_STRINGS" "Z" (.int cs)) (PE7 : Exa Z h0 b2 "java/lang/StringBuilder") (PF8 : Fld Z h0 b2 "java/lang/AbstractStringBuilder" "value" "[B" (.ref b13a)) (PF9 : Fld Z h0 b2 "java/lang/AbstractStringBuilder" "coder" "B" (.int (0 : Int32))) (PF10 : Fld Z h0 b2 "java/lang/AbstractStringBuilder" "count" "I" (.int (0 : Int32))) (PV11 : Arv Z h0 b13a k13b .byte (16 : Int32) own_ls1 (.int (0 : Int32))) (PE12 : Exa Z h0 a14 "java/lang/String") (PF13 : Fld Z h0 a14 "java/lang/String" "coder" "B" (.int (0 : Int32))) (PF14 : Fld Z h0 a14 "java/lang/String" "value" "[B" (.ref b14)) (PV15 : Arv Z h0 b14 kc14 .byte (18 : Int32) own_ls2 (.int (0 : Int32))) (PP0 : ¬ (cs = (0 : Int32))) (ne_a14_b2 : a14 ≠ b2) (ne_b14_b2 : b14 ≠ b2) (n_b2 : n0 ≤ b2) :
    MetFree l mn15 (head1 (Jvm.Cond.code mn15 jdk_68_method_22_code 3 (some (.object "java/lang/AbstractStringBuilder")) :: ws) ({ frames := 4, cells := 1, slots := 34, locals := 62 } : Room)) (fun a U => a = #[(.ref b2), (.ref a14)] ∧ Z.Warmed39 U.vm ∧ U.heap = h0) (fun _ _ _ _ _ => True) (fun _ U o U' => ∃ v L, o = .returned v ∧ Q8a5 Z b2 a14 cs b13a k13b b14 kc14 h0 n0 v U'.heap L ∧ FrameEnd U o U' L ({ frames := 4, cells := 1, slots := 34, locals := 62 } : Room).cells ({ frames := 4, cells := 1, slots := 34, locals := 62 } : Room).slots) := by
  refine MetFree.of_bodySF (plainFor_of_name pn_3) hisR ?_
  intro p e s m args below meth c s₁ Bd hml0 hP hK
  obtain ⟨rfl, hZ, hh⟩ := hP
  have hx := Bd.exec
  have hby := Bd.bytes
  have hml : c.maxLocals = 3 := hml0
  have hown : s.vm.findClass "java/lang/AbstractStringBuilder" = some m.cls := findClass_of_methodNamed Bd.named
  have hnm := (name_of_methodNamed Bd.named Bd.method).1
  have X0 : Stand p l e ({ frames := 4, cells := 1, slots := 34, locals := 62 } : Room) s m #[(.ref b2), (.ref a14)] below meth c s₁ [] 0 0 := Stand.of_body Bd
  have e0 : s₁.heap = h0 := by rw [← hh, Bd.state]; rfl
  have N0 := Fr.nil n0
  show own_Ends p e below s (Q8a5 Z b2 a14 cs b13a k13b b14 kc14 h0 n0) _ _ s₁ _
  rw [ef_rm8a5 m b2 a14]
  refine own_go (T' := s₁) (f' := (mkF m 10 #[.val (.ref b2), .val (.ref a14), .unset] [(.ref a14)])) (fun _ k => XS.aloadN X0.here hx rfl (hb hby d8_0) rfl rfl (XS.ifnonnullYes X0.here hx rfl (pc0 := 1) (pc' := 9) rfl (hb hby d8_1) rfl (by decide) (by decide) (XS.aloadN X0.here hx rfl (hb hby d8_9) rfl rfl k))) ?_
  obtain ⟨cq19, kq19, q19a, q19b, q19c⟩ := isOf hZ e0 PE12
  obtain ⟨_, _, ⟨T19, L19, k19, n19⟩, -, X19, ⟨Lc19, hQ19, l19, y19, z19⟩, st19⟩ := X0.virtualBack hx (y := mn5) (z := mn5) hown (mvT hZ (ow60 hw)) (mvT hZ (ow61 hw)) (notFace_of_selects (args := #[]) (mvT hZ (ow63 hw))) (mvT hZ (ow63 hw)) (mvT hZ (ow62 hw)) (by decide) (backOf (W := 0) (rm9a6 l Z a0 hw [] a14 cs b14 kc14 h0 n0 Z0 PS0 PE12 PF13 PF14 PV15 PP0) hZ (ow64 hw) (ow9 hw) (by decide) (by decide)) q19a q19c (g := (mkF m 10 #[.val (.ref b2), .val (.ref a14), .unset] [(.ref a14)])) rfl (by rw [hml]; rfl) (Steps.refl _) (argsL := []) (rest := []) (lenOf pd1 rfl) rfl (by show 2 * 0 + _ ≤ _; exact Nat.le_of_eq rfl) (hb hby d8_10) (fun _ _ => ⟨rfl, e0, (by decide : 0 + 0 ≤ _), (by decide : 0 + 0 ≤ _)⟩)
  dsimp only [Pt.U, Pt.locs, Pt.cells, Pt.slots] at X19 l19 y19 z19 st19 hQ19
  subst l19 y19 z19
  obtain ⟨rfl, N19q, hh19⟩ := hQ19
  have N19 := Fr.app N0 N19q
  refine own_go (T' := T19) (f' := (mkF m 16 #[.val (.ref b2), .val (.ref a14), .val (.int (18 : Int32))] [(.ref b2), (.ref b2)])) (fun _ k => st19.trans (XS.istoreN X19.here hx rfl (hb hby d8_13) rfl (l' := #[.val (.ref b2), .val (.ref a14), .val (.int (18 : Int32))]) rfl (XS.aloadN X19.here hx rfl (hb hby d8_14) rfl rfl (XS.aloadN X19.here hx rfl (hb hby d8_15) rfl rfl k)))) ?_
  obtain ⟨T20, X20, e20, st20⟩ := getF X19 hx hZ hown (host := "") (Or.inl (ow73 hw)) Via.refl hh19 PF10 (g := (mkF m 16 #[.val (.ref b2), .val (.ref a14), .val (.int (18 : Int32))] [(.ref b2), (.ref b2)])) rfl rfl (hb hby d8_16)
  refine own_go (T' := T20) (f' := (mkF m 21 #[.val (.ref b2), .val (.ref a14), .val (.int (18 : Int32))] [(.int (18 : Int32)), (.ref b2)])) (fun _ k => st20 _ (XS.iloadN X20.here hx rfl (hb hby d8_19) rfl (XS.iadd X20.here hx rfl (hb hby d8_20) rfl k))) ?_
  obtain ⟨cq39, q39, q39'⟩ := PE7.cell
  obtain ⟨_, _, ⟨T39, L39, k39, n39⟩, -, X39, ⟨Lc39, hQ39, l39, y39, z39⟩, st39⟩ := X20.privateBack hx (y := mn11) hown (mvT hZ (ow75 hw)) (mvT hZ (ow76 hw)) (own_selp (mvT hZ (ow78 hw)) (Cond.privateMethod_at (mvP hZ (ow77 hw) (args := #[]))) (mvT hZ (ow76 hw)) (by decide)) (Cond.privateMethod_at (mvP hZ (ow77 hw) (args := #[]))) (mvT hZ (ow79 hw)) (by decide) (backOf (W := 0) (rm11a8 l Z a0 hw [] b2 b13a k13b h0 n0 Z0 PE7 PF8 PF9 PF10 PV11 n_b2) hZ (ow79 hw) (ow41 hw) (by decide) (by decide)) (g := (mkF m 21 #[.val (.ref b2), .val (.ref a14), .val (.int (18 : Int32))] [(.int (18 : Int32)), (.ref b2)])) rfl (by rw [hml]; rfl) (Steps.refl _) (a := b2) (by rw [e20]; exact q39) q39' (argsL := [(.int (18 : Int32))]) (rest := []) (lenOf pd12 rfl) rfl (by show 2 * 0 + _ ≤ _; exact Nat.le_of_eq rfl) (hb hby d8_21) (fun _ _ => ⟨rfl, e20, (by decide : 0 + 1 ≤ _), (by decide : 0 + 34 ≤ _)⟩)
  dsimp only [Pt.U, Pt.locs, Pt.cells, Pt.slots] at X39 l39 y39 z39 st39 hQ39
  subst l39 y39 z39
  obtain ⟨b39a, k39b, rfl, N39q, K39, n_b39a, sg_b39a, g39_0, g39_1, g39_2, g39_3⟩ := hQ39
  have N39 := Fr.app N19 N39q
  have sz_b39a : h0.size ≤ b39a := Nat.le_trans (Keep.refl h0 [b2]).1 sg_b39a
  have eK39 : T39.heap = T39.heap := rfl
  have KK39 : Keep h0 T39.heap [b2] := Keep.trans (Keep.refl h0 [b2]) K39 (allS (Or.inl (List.mem_of_getElem? (i := 0) rfl)) all0)
  refine own_go (T' := T39) (f' := (mkF m 26 #[.val (.ref b2), .val (.ref a14), .val (.int (18 : Int32))] [(.ref b2), (.ref b2)])) (fun _ k => st39.trans (XS.aloadN X39.here hx rfl (hb hby d8_24) rfl rfl (XS.aloadN X39.here hx rfl (hb hby d8_25) rfl rfl k))) ?_
  obtain ⟨T40, X40, e40, st40⟩ := getF X39 hx hZ hown (host := "") (Or.inl (ow73 hw)) Via.refl eK39 g39_2 (g := (mkF m 26 #[.val (.ref b2), .val (.ref a14), .val (.int (18 : Int32))] [(.ref b2), (.ref b2)])) rfl rfl (hb hby d8_26)
  refine own_go (T' := T40) (f' := (mkF m 30 #[.val (.ref b2), .val (.ref a14), .val (.int (18 : Int32))] [(.ref a14), (.int (0 : Int32)), (.ref b2)])) (fun _ k => st40 _ (XS.aloadN X40.here hx rfl (hb hby d8_29) rfl rfl k)) ?_
  obtain ⟨cq52, q52, q52'⟩ := (PE7.keep K39).cell
  obtain ⟨_, _, ⟨T52, L52, k52, n52⟩, -, X52, ⟨Lc52, hQ52, l52, y52, z52⟩, st52⟩ := X40.privateBack hx (y := mn14) hown (mvT hZ (ow106 hw)) (mvT hZ (ow107 hw)) (own_selp (mvT hZ (ow109 hw)) (Cond.privateMethod_at (mvP hZ (ow108 hw) (args := #[]))) (mvT hZ (ow107 hw)) (by decide)) (Cond.privateMethod_at (mvP hZ (ow108 hw) (args := #[]))) (mvT hZ (ow110 hw)) (by decide) (backOf (W := 0) (rm17a14 l Z a0 hw [] b2 a14 cs b39a b14 kc14 k39b T39.heap n0 (Nat.le_trans Z0 K39.1) (own_sta_keep PS0 K39 (own_wsE PE7 own_ws0)) (PE7.keep K39) g39_0 g39_1 (PE12.keep K39) (PF13.keep K39 (ninS ne_a14_b2 nin0)) (PF14.keep K39 (ninS ne_a14_b2 nin0)) (PV15.keep K39 (ninS ne_b14_b2 nin0)) g39_3 PP0 n_b39a) hZ (ow110 hw) (ow41 hw) (by decide) (by decide)) (g := (mkF m 30 #[.val (.ref b2), .val (.ref a14), .val (.int (18 : Int32))] [(.ref a14), (.int (0 : Int32)), (.ref b2)])) rfl (by rw [hml]; rfl) (Steps.refl _) (a := b2) (by rw [e40]; exact q52) q52' (argsL := [(.int (0 : Int32)), (.ref a14)]) (rest := []) (lenOf pd18 rfl) rfl (by show 2 * 0 + _ ≤ _; exact Nat.le_of_eq rfl) (hb hby d8_30) (fun _ _ => ⟨rfl, e40, (by decide : 1 + 0 ≤ _), (by decide : 34 + 0 ≤ _)⟩)
  dsimp only [Pt.U, Pt.locs, Pt.cells, Pt.slots] at X52 l52 y52 z52 st52 hQ52
  subst l52 y52 z52
  obtain ⟨rfl, N52q, K52, g52_0⟩ := hQ52
  have N52 := Fr.app N39 N52q
  have eK52 : T52.heap = T52.heap := rfl
  have KK52 : Keep h0 T52.heap [b2] := Keep.trans KK39 K52 (allS (Or.inr sz_b39a) all0)
  refine own_go (T' := T52) (f' := (mkF m 35 #[.val (.ref b2), .val (.ref a14), .val (.int (18 : Int32))] [(.ref b2), (.ref b2)])) (fun _ k => st52.trans (XS.aloadN X52.here hx rfl (hb hby d8_33) rfl rfl (XS.dup X52.here hx rfl (hb hby d8_34) rfl rfl k))) ?_
  obtain ⟨T53, X53, e53, st53⟩ := getF X52 hx hZ hown (host := "") (Or.inl (ow73 hw)) Via.refl eK52 (g39_2.keep K52 (ninS (Nat.ne_of_lt (Nat.lt_of_lt_of_le PE7.lt sg_b39a)) nin0)) (g := (mkF m 35 #[.val (.ref b2), .val (.ref a14), .val (.int (18 : Int32))] [(.ref b2), (.ref b2)])) rfl rfl (hb hby d8_35)
  refine own_go (T' := T53) (f' := (mkF m 40 #[.val (.ref b2), .val (.ref a14), .val (.int (18 : Int32))] [(.int (18 : Int32)), (.ref b2)])) (fun _ k => st53 _ (XS.iloadN X53.here hx rfl (hb hby d8_38) rfl (XS.iadd X53.here hx rfl (hb hby d8_39) rfl k))) ?_
  obtain ⟨T54, h54, X54, e54, W54, st54⟩ := putF X53 hx hZ hown (host := "") (Or.inl (ow73 hw)) Via.refl e53 (g39_2.keep K52 (ninS (Nat.ne_of_lt (Nat.lt_of_lt_of_le PE7.lt sg_b39a)) nin0)) ((PE7.keep K39).keep K52) (Or.inl (ow74 hw)) (ow32 hw) (ty := .int) (by decide) rfl rfl (g := (mkF m 40 #[.val (.ref b2), .val (.ref a14), .val (.int (18 : Int32))] [(.int (18 : Int32)), (.ref b2)])) rfl rfl (hb hby d8_40)
  have Fw54 := Fld.same W54 (g39_2.keep K52 (ninS (Nat.ne_of_lt (Nat.lt_of_lt_of_le PE7.lt sg_b39a)) nin0))
  have K54 : Keep h0 h54 [b2] := KK52.wr W54 (Or.inl (List.mem_of_getElem? (i := 0) rfl))
  have N54 := Fr.snoc X54 N52 n_b2
  refine own_go (T' := T54) (f' := (mkF m 44 #[.val (.ref b2), .val (.ref a14), .val (.int (18 : Int32))] [(.ref b2)])) (fun _ k => st54 _ (XS.aloadN X54.here hx rfl (hb hby d8_43) rfl rfl k)) ?_
  refine own_ret X54 (v := some (.ref b2)) (fun h => by rw [Bd.returns] at h; cases h) Bd.notSynchronized (fun fs hr => own_retA X54 hx Bd.returns rfl rfl (hb hby d8_44) hr) ?_ (by decide) (by decide)
  show Q8a5 Z b2 a14 cs b13a k13b b14 kc14 h0 n0 _ T54.heap _
  have G55 := ((g39_0.keep K52 (ninS (Nat.ne_of_lt (Nat.lt_of_lt_of_le PE7.lt sg_b39a)) nin0)).other W54 (Or.inr (slot_ne (Or.inl (ow46 hw)) (Or.inl (ow74 hw)) (by decide) (t := (.array .byte)) (t' := .int) (by decide) (by decide))))
  have G56 := ((g39_1.keep K52 (ninS (Nat.ne_of_lt (Nat.lt_of_lt_of_le PE7.lt sg_b39a)) nin0)).other W54 (Or.inr (slot_ne (Or.inl (ow48 hw)) (Or.inl (ow74 hw)) (by decide) (t := .byte) (t' := .int) (by decide) (by decide))))
  rw [e54]
  exact ⟨b39a, k39b, rfl, N54, K54, n_b39a, sz_b39a, G55, G56, Fw54, (g52_0.other W54 (Ne.symm (Nat.ne_of_lt (Nat.lt_of_lt_of_le PE7.lt sg_b39a))))⟩
theorem pd21 : parseMethodDescriptor "(Ljava/lang/String;)Ljava/lang/AbstractStringBuilder;" = some ⟨[(.object "java/lang/String")], some (.object "java/lang/AbstractStringBuilder")⟩ := by decide +kernel
theorem d7_0 : decode jdk_67_method_7_code 0 = .ok (.aload_n 0, 1) := by decide +kernel
theorem d7_1 : decode jdk_67_method_7_code 1 = .ok (.aload_n 1, 1) := by decide +kernel
theorem d7_2 : decode jdk_67_method_7_code 2 = .ok (.invokespecial 29, 3) := by decide +kernel
theorem d7_5 : decode jdk_67_method_7_code 5 = .ok (.pop, 1) := by decide +kernel
theorem d7_6 : decode jdk_67_method_7_code 6 = .ok (.aload_n 0, 1) := by decide +kernel
theorem d7_7 : decode jdk_67_method_7_code 7 = .ok (.areturn, 1) := by decide +kernel
theorem ef_rm7a4 (m : MethodId) (b2 : Addr) (a14 : Addr) : entryFrame m #[(.ref b2), (.ref a14)] 2 = mkF m 0 #[.val (.ref b2), .val (.ref a14)] [] := by first | (simp [entryFrame, mkF, argsToLocals, Value.category]; done) | rfl
def Q7a4 (Z : State) (b2 : Addr) (a14 : Addr) (cs : Int32) (b13a : Addr) (k13b : ClassId) (b14 : Addr) (kc14 : ClassId) (h0 : Heap) (n0 : Nat) (v : Option Value) (h : Heap) (L : List Loc) : Prop := ∃ (b57a : Addr) (k57b : ClassId), v = some (.ref b2) ∧ Fr n0 L ∧ Keep h0 h [b2] ∧ n0 ≤ b57a ∧ h0.size ≤ b57a ∧ Fld Z h b2 "java/lang/AbstractStringBuilder" "value" "[B" (.ref b57a) ∧ Fld Z h b2 "java/lang/AbstractStringBuilder" "coder" "B" (.int (0 : Int32)) ∧ Fld Z h b2 "java/lang/AbstractStringBuilder" "count" "I" (.int (18 : Int32)) ∧ Arv Z h b57a k57b .byte (34 : Int32) own_ls4 (.int (0 : Int32))
set_option maxRecDepth 65536 in
set_option maxHeartbeats 40000000 in
theorem rm7a4 (l : Launch) (Z : State) (a0 : Array Value) (hw : ∀ d ∈ tables_1, d.before a0 Z = true) (ws : List Jvm.Cond) (b2 : Addr) (a14 : Addr) (cs : Int32) (b13a : Addr) (k13b : ClassId) (b14 : Addr) (kc14 : ClassId) (h0 : Heap) (n0 : Nat) (Z0 : n0 ≤ h0.size) (PS0 : Sta Z h0 "java/lang/String" "COMPACT_STRINGS" "Z" (.int cs)) (PE7 : Exa Z h0 b2 "java/lang/StringBuilder") (PF8 : Fld Z h0 b2 "java/lang/AbstractStringBuilder" "value" "[B" (.ref b13a)) (PF9 : Fld Z h0 b2 "java/lang/AbstractStringBuilder" "coder" "B" (.int (0 : Int32))) (PF10 : Fld Z h0 b2 "java/lang/AbstractStringBuilder" "count" "I" (.int (0 : Int32))) (PV11 : Arv Z h0 b13a k13b .byte (16 : Int32) own_ls1 (.int (0 : Int32))) (PE12 : Exa Z h0 a14 "java/lang/String") (PF13 : Fld Z h0 a14 "java/lang/String" "coder" "B" (.int (0 : Int32))) (PF14 : Fld Z h0 a14 "java/lang/String" "value" "[B" (.ref b14)) (PV15 : Arv Z h0 b14 kc14 .byte (18 : Int32) own_ls2 (.int (0 : Int32))) (PP0 : ¬ (cs = (0 : Int32))) (ne_a14_b2 : a14 ≠ b2) (ne_b14_b2 : b14 ≠ b2) (n_b2 : n0 ≤ b2) :
    MetFree l mn16 (head1 (Jvm.Cond.code mn16 jdk_67_method_7_code 2 (some (.object "java/lang/StringBuilder")) :: ws) ({ frames := 5, cells := 1, slots := 34, locals := 76 } : Room)) (fun a U => a = #[(.ref b2), (.ref a14)] ∧ Z.Warmed39 U.vm ∧ U.heap = h0) (fun _ _ _ _ _ => True) (fun _ U o U' => ∃ v L, o = .returned v ∧ Q7a4 Z b2 a14 cs b13a k13b b14 kc14 h0 n0 v U'.heap L ∧ FrameEnd U o U' L ({ frames := 5, cells := 1, slots := 34, locals := 76 } : Room).cells ({ frames := 5, cells := 1, slots := 34, locals := 76 } : Room).slots) := by
  refine MetFree.of_bodySF (plainFor_of_name pn_8) hisR ?_
  intro p e s m args below meth c s₁ Bd hml0 hP hK
  obtain ⟨rfl, hZ, hh⟩ := hP
  have hx := Bd.exec
  have hby := Bd.bytes
  have hml : c.maxLocals = 2 := hml0
  have hown : s.vm.findClass "java/lang/StringBuilder" = some m.cls := findClass_of_methodNamed Bd.named
  have hnm := (name_of_methodNamed Bd.named Bd.method).1
  have X0 : Stand p l e ({ frames := 5, cells := 1, slots := 34, locals := 76 } : Room) s m #[(.ref b2), (.ref a14)] below meth c s₁ [] 0 0 := Stand.of_body Bd
  have e0 : s₁.heap = h0 := by rw [← hh, Bd.state]; rfl
  have N0 := Fr.nil n0
  show own_Ends p e below s (Q7a4 Z b2 a14 cs b13a k13b b14 kc14 h0 n0) _ _ s₁ _
  rw [ef_rm7a4 m b2 a14]
  refine own_go (T' := s₁) (f' := (mkF m 2 #[.val (.ref b2), .val (.ref a14)] [(.ref a14), (.ref b2)])) (fun _ k => XS.aloadN X0.here hx rfl (hb hby d7_0) rfl rfl (XS.aloadN X0.here hx rfl (hb hby d7_1) rfl rfl k)) ?_
  obtain ⟨_, _, ⟨T57, L57, k57, n57⟩, -, X57, ⟨Lc57, hQ57, l57, y57, z57⟩, st57⟩ := superBack X0 hx hZ (y := mn15) hown (ow55 hw) (own_same (y := mn15) (y2 := mn11) (ow78 hw) rfl (ow56 hw) (by decide)) (ow56 hw) (ow57 hw) (by decide) (backOf (W := 0) (rm8a5 l Z a0 hw [] b2 a14 cs b13a k13b b14 kc14 h0 n0 Z0 PS0 PE7 PF8 PF9 PF10 PV11 PE12 PF13 PF14 PV15 PP0 ne_a14_b2 ne_b14_b2 n_b2) hZ (ow59 hw) (ow41 hw) (by decide) (by decide)) e0 (Ins.self PE7) (g := (mkF m 2 #[.val (.ref b2), .val (.ref a14)] [(.ref a14), (.ref b2)])) rfl (by rw [hml]; rfl) (ow59 hw) (argsL := [(.ref a14)]) (rest := []) (lenOf pd21 rfl) rfl (by show 2 * 0 + _ ≤ _; exact Nat.le_of_eq rfl) (hb hby d7_2) (fun _ _ => ⟨rfl, e0, (by decide : 0 + 1 ≤ _), (by decide : 0 + 34 ≤ _)⟩)
  dsimp only [Pt.U, Pt.locs, Pt.cells, Pt.slots] at X57 l57 y57 z57 st57 hQ57
  subst l57 y57 z57
  obtain ⟨b57a, k57b, rfl, N57q, K57, n_b57a, sg_b57a, g57_0, g57_1, g57_2, g57_3⟩ := hQ57
  have N57 := Fr.app N0 N57q
  have sz_b57a : h0.size ≤ b57a := Nat.le_trans (Keep.refl h0 [b2]).1 sg_b57a
  have eK57 : T57.heap = T57.heap := rfl
  have KK57 : Keep h0 T57.heap [b2] := Keep.trans (Keep.refl h0 [b2]) K57 (allS (Or.inl (List.mem_of_getElem? (i := 0) rfl)) all0)
  refine own_go (T' := T57) (f' := (mkF m 7 #[.val (.ref b2), .val (.ref a14)] [(.ref b2)])) (fun _ k => st57.trans (XS.pop X57.here hx rfl (hb hby d7_5) rfl rfl (XS.aloadN X57.here hx rfl (hb hby d7_6) rfl rfl k))) ?_
  refine own_ret X57 (v := some (.ref b2)) (fun h => by rw [Bd.returns] at h; cases h) Bd.notSynchronized (fun fs hr => own_retA X57 hx Bd.returns rfl rfl (hb hby d7_7) hr) ?_ (by decide) (by decide)
  show Q7a4 Z b2 a14 cs b13a k13b b14 kc14 h0 n0 _ T57.heap _
  rw [eK57]
  exact ⟨b57a, k57b, rfl, N57, KK57, n_b57a, sz_b57a, g57_0, g57_1, g57_2, g57_3⟩
theorem pd22 : parseMethodDescriptor "(Ljava/lang/String;)Ljava/lang/StringBuilder;" = some ⟨[(.object "java/lang/String")], some (.object "java/lang/StringBuilder")⟩ := by decide +kernel
theorem d22_0 : decode jdk_33_method_13_code 0 = .ok (.iconst 1, 1) := by decide +kernel
theorem d22_1 : decode jdk_33_method_13_code 1 = .ok (.istore_n 1, 1) := by decide +kernel
theorem d22_2 : decode jdk_33_method_13_code 2 = .ok (.iload_n 0, 1) := by decide +kernel
theorem d22_3 : decode jdk_33_method_13_code 3 = .ok (.ifCond .lt 8, 3) := by decide +kernel
theorem d22_6 : decode jdk_33_method_13_code 6 = .ok (.iconst 0, 1) := by decide +kernel
theorem d22_7 : decode jdk_33_method_13_code 7 = .ok (.istore_n 1, 1) := by decide +kernel
theorem d22_8 : decode jdk_33_method_13_code 8 = .ok (.iload_n 0, 1) := by decide +kernel
theorem d22_9 : decode jdk_33_method_13_code 9 = .ok (.ineg, 1) := by decide +kernel
theorem d22_10 : decode jdk_33_method_13_code 10 = .ok (.istore_n 0, 1) := by decide +kernel
theorem d22_11 : decode jdk_33_method_13_code 11 = .ok (.bipush (-10), 2) := by decide +kernel
theorem d22_13 : decode jdk_33_method_13_code 13 = .ok (.istore_n 2, 1) := by decide +kernel
theorem d22_14 : decode jdk_33_method_13_code 14 = .ok (.iconst 1, 1) := by decide +kernel
theorem d22_15 : decode jdk_33_method_13_code 15 = .ok (.istore_n 3, 1) := by decide +kernel
theorem d22_16 : decode jdk_33_method_13_code 16 = .ok (.iload_n 3, 1) := by decide +kernel
theorem d22_17 : decode jdk_33_method_13_code 17 = .ok (.bipush 10, 2) := by decide +kernel
theorem d22_19 : decode jdk_33_method_13_code 19 = .ok (.if_icmp .ge 23, 3) := by decide +kernel
theorem d22_22 : decode jdk_33_method_13_code 22 = .ok (.iload_n 0, 1) := by decide +kernel
theorem d22_23 : decode jdk_33_method_13_code 23 = .ok (.iload_n 2, 1) := by decide +kernel
theorem d22_24 : decode jdk_33_method_13_code 24 = .ok (.if_icmp .le 7, 3) := by decide +kernel
theorem d22_27 : decode jdk_33_method_13_code 27 = .ok (.iload_n 3, 1) := by decide +kernel
theorem d22_28 : decode jdk_33_method_13_code 28 = .ok (.iload_n 1, 1) := by decide +kernel
theorem d22_29 : decode jdk_33_method_13_code 29 = .ok (.iadd, 1) := by decide +kernel
theorem d22_30 : decode jdk_33_method_13_code 30 = .ok (.ireturn, 1) := by decide +kernel
theorem pn_4 : plainName "java/lang/Integer" = true := by first | (simp [plainName, overriddenIn]; done) | decide +kernel
theorem ef_rm22a19 (m : MethodId)  : entryFrame m #[(.int (0 : Int32))] 4 = mkF m 0 #[.val (.int (0 : Int32)), .unset, .unset, .unset] [] := by first | (simp [entryFrame, mkF, argsToLocals, Value.category]; done) | rfl
def Q22a19 (Z : State)  (h0 : Heap) (n0 : Nat) (v : Option Value) (h : Heap) (L : List Loc) : Prop := v = some (.int (1 : Int32)) ∧ Fr n0 L ∧ h = h0
set_option maxRecDepth 65536 in
set_option maxHeartbeats 40000000 in
theorem rm22a19 (l : Launch) (Z : State) (a0 : Array Value) (hw : ∀ d ∈ tables_1, d.before a0 Z = true) (ws : List Jvm.Cond)  (h0 : Heap) (n0 : Nat) (Z0 : n0 ≤ h0.size) :
    MetFree l mn17 (head1 (Jvm.Cond.code mn17 jdk_33_method_13_code 4 (some .int) :: ws) ({ frames := 0, cells := 0, slots := 0, locals := 0 } : Room)) (fun a U => a = #[(.int (0 : Int32))] ∧ Z.Warmed39 U.vm ∧ U.heap = h0) (fun _ _ _ _ _ => True) (fun _ U o U' => ∃ v L, o = .returned v ∧ Q22a19 Z  h0 n0 v U'.heap L ∧ FrameEnd U o U' L ({ frames := 0, cells := 0, slots := 0, locals := 0 } : Room).cells ({ frames := 0, cells := 0, slots := 0, locals := 0 } : Room).slots) := by
  refine MetFree.of_bodySF (plainFor_of_name pn_4) hisR ?_
  intro p e s m args below meth c s₁ Bd hml0 hP hK
  obtain ⟨rfl, hZ, hh⟩ := hP
  have hx := Bd.exec
  have hby := Bd.bytes
  have hml : c.maxLocals = 4 := hml0
  have hown : s.vm.findClass "java/lang/Integer" = some m.cls := findClass_of_methodNamed Bd.named
  have hnm := (name_of_methodNamed Bd.named Bd.method).1
  have X0 : Stand p l e ({ frames := 0, cells := 0, slots := 0, locals := 0 } : Room) s m #[(.int (0 : Int32))] below meth c s₁ [] 0 0 := Stand.of_body Bd
  have e0 : s₁.heap = h0 := by rw [← hh, Bd.state]; rfl
  have N0 := Fr.nil n0
  show own_Ends p e below s (Q22a19 Z  h0 n0) _ _ s₁ _
  rw [ef_rm22a19 m ]
  refine own_go (T' := s₁) (f' := (mkF m 8 #[.val (.int (0 : Int32)), .val (.int (0 : Int32)), .unset, .unset] [])) (fun _ k => XS.iconst X0.here hx rfl (hb hby d22_0) (XS.istoreN X0.here hx rfl (hb hby d22_1) rfl (l' := #[.val (.int (0 : Int32)), .val (.int (1 : Int32)), .unset, .unset]) rfl (XS.iloadN X0.here hx rfl (hb hby d22_2) rfl (XS.ifNo X0.here hx rfl (hb hby d22_3) rfl ((if0 _ _).trans (flt (by decide : ¬ ((0 : Int32) < (0 : Int32)))).1) (XS.iconst X0.here hx rfl (hb hby d22_6) (XS.istoreN X0.here hx rfl (hb hby d22_7) rfl (l' := #[.val (.int (0 : Int32)), .val (.int (0 : Int32)), .unset, .unset]) rfl k)))))) ?_
  refine own_go (T' := s₁) (f' := (mkF m 15 #[.val (.int (0 : Int32)), .val (.int (0 : Int32)), .val (.int (-10 : Int32)), .unset] [(.int (1 : Int32))])) (fun _ k => XS.iloadN X0.here hx rfl (hb hby d22_8) rfl (XS.ineg X0.here hx rfl (hb hby d22_9) rfl (XS.istoreN X0.here hx rfl (hb hby d22_10) rfl (l' := #[.val (.int (0 : Int32)), .val (.int (0 : Int32)), .unset, .unset]) rfl (XS.bipush X0.here hx rfl (hb hby d22_11) (XS.istoreN X0.here hx rfl (hb hby d22_13) rfl (l' := #[.val (.int (0 : Int32)), .val (.int (0 : Int32)), .val (.int (-10 : Int32)), .unset]) rfl (XS.iconst X0.here hx rfl (hb hby d22_14) k)))))) ?_
  refine own_go (T' := s₁) (f' := (mkF m 24 #[.val (.int (0 : Int32)), .val (.int (0 : Int32)), .val (.int (-10 : Int32)), .val (.int (1 : Int32))] [(.int (-10 : Int32)), (.int (0 : Int32))])) (fun _ k => XS.istoreN X0.here hx rfl (hb hby d22_15) rfl (l' := #[.val (.int (0 : Int32)), .val (.int (0 : Int32)), .val (.int (-10 : Int32)), .val (.int (1 : Int32))]) rfl (XS.iloadN X0.here hx rfl (hb hby d22_16) rfl (XS.bipush X0.here hx rfl (hb hby d22_17) (XS.icmpNo X0.here hx rfl (hb hby d22_19) rfl (tlt (by decide : ((1 : Int32) < (10 : Int32)))).2.1 (XS.iloadN X0.here hx rfl (hb hby d22_22) rfl (XS.iloadN X0.here hx rfl (hb hby d22_23) rfl k)))))) ?_
  refine own_go (T' := s₁) (f' := (mkF m 30 #[.val (.int (0 : Int32)), .val (.int (0 : Int32)), .val (.int (-10 : Int32)), .val (.int (1 : Int32))] [(.int (1 : Int32))])) (fun _ k => XS.icmpNo X0.here hx rfl (hb hby d22_24) rfl (tlt (by decide : ((-10 : Int32) < (0 : Int32)))).2.2.2 (XS.iloadN X0.here hx rfl (hb hby d22_27) rfl (XS.iloadN X0.here hx rfl (hb hby d22_28) rfl (XS.iadd X0.here hx rfl (hb hby d22_29) rfl k)))) ?_
  refine own_ret X0 (v := some (.int (1 : Int32))) (fun h => by rw [Bd.returns] at h; cases h) Bd.notSynchronized (fun fs hr => retI X0 hx Bd.returns (hb hby d22_30) hr) ?_ (by decide) (by decide)
  show Q22a19 Z  h0 n0 _ s₁.heap _
  exact ⟨rfl, N0, e0⟩
theorem ef_rm11a20 (m : MethodId) (b2 : Addr) : entryFrame m #[(.ref b2), (.int (19 : Int32))] 3 = mkF m 0 #[.val (.ref b2), .val (.int (19 : Int32)), .unset] [] := by first | (simp [entryFrame, mkF, argsToLocals, Value.category]; done) | rfl
def Q11a20 (Z : State) (b2 : Addr) (b58a : Addr) (k58b : ClassId) (h0 : Heap) (n0 : Nat) (v : Option Value) (h : Heap) (L : List Loc) : Prop := v = none ∧ Fr n0 L ∧ h = h0
set_option maxRecDepth 65536 in
set_option maxHeartbeats 40000000 in
theorem rm11a20 (l : Launch) (Z : State) (a0 : Array Value) (hw : ∀ d ∈ tables_1, d.before a0 Z = true) (ws : List Jvm.Cond) (b2 : Addr) (b58a : Addr) (k58b : ClassId) (h0 : Heap) (n0 : Nat) (Z0 : n0 ≤ h0.size) (PF8 : Fld Z h0 b2 "java/lang/AbstractStringBuilder" "value" "[B" (.ref b58a)) (PF9 : Fld Z h0 b2 "java/lang/AbstractStringBuilder" "coder" "B" (.int (0 : Int32))) (PV16 : Arv Z h0 b58a k58b .byte (34 : Int32) own_ls4 (.int (0 : Int32))) :
    MetFree l mn11 (head1 (Jvm.Cond.code mn11 jdk_68_method_9_code 3 none :: ws) ({ frames := 0, cells := 0, slots := 0, locals := 0 } : Room)) (fun a U => a = #[(.ref b2), (.int (19 : Int32))] ∧ Z.Warmed39 U.vm ∧ U.heap = h0) (fun _ _ _ _ _ => True) (fun _ U o U' => ∃ v L, o = .returned v ∧ Q11a20 Z b2 b58a k58b h0 n0 v U'.heap L ∧ FrameEnd U o U' L ({ frames := 0, cells := 0, slots := 0, locals := 0 } : Room).cells ({ frames := 0, cells := 0, slots := 0, locals := 0 } : Room).slots) := by
  refine MetFree.of_bodySF (plainFor_of_name pn_3) hisR ?_
  intro p e s m args below meth c s₁ Bd hml0 hP hK
  obtain ⟨rfl, hZ, hh⟩ := hP
  have hx := Bd.exec
  have hby := Bd.bytes
  have hml : c.maxLocals = 3 := hml0
  have hown : s.vm.findClass "java/lang/AbstractStringBuilder" = some m.cls := findClass_of_methodNamed Bd.named
  have hnm := (name_of_methodNamed Bd.named Bd.method).1
  have X0 : Stand p l e ({ frames := 0, cells := 0, slots := 0, locals := 0 } : Room) s m #[(.ref b2), (.int (19 : Int32))] below meth c s₁ [] 0 0 := Stand.of_body Bd
  have e0 : s₁.heap = h0 := by rw [← hh, Bd.state]; rfl
  have N0 := Fr.nil n0
  show own_Ends p e below s (Q11a20 Z b2 b58a k58b h0 n0) _ _ s₁ _
  rw [ef_rm11a20 m b2]
  refine own_go (T' := s₁) (f' := (mkF m 1 #[.val (.ref b2), .val (.int (19 : Int32)), .unset] [(.ref b2)])) (fun _ k => XS.aloadN X0.here hx rfl (hb hby d11_0) rfl rfl k) ?_
  obtain ⟨T61, X61, e61, st61⟩ := getF X0 hx hZ hown (host := "") (Or.inl (ow45 hw)) Via.refl e0 PF8 (g := (mkF m 1 #[.val (.ref b2), .val (.int (19 : Int32)), .unset] [(.ref b2)])) rfl rfl (hb hby d11_1)
  refine own_go (T' := T61) (f' := (mkF m 6 #[.val (.ref b2), .val (.int (19 : Int32)), .unset] [(.ref b2), (.int (34 : Int32))])) (fun _ k => st61 _ (own_alen X61 hx hZ e61 PV16 rfl rfl (hb hby d11_4) (XS.aloadN X61.here hx rfl (hb hby d11_5) rfl rfl k))) ?_
  obtain ⟨T62, X62, e62, st62⟩ := getF X61 hx hZ hown (host := "") (Or.inl (ow47 hw)) Via.refl e61 PF9 (g := (mkF m 6 #[.val (.ref b2), .val (.int (19 : Int32)), .unset] [(.ref b2), (.int (34 : Int32))])) rfl rfl (hb hby d11_6)
  refine own_go (T' := T62) (f' := (mkF m 14 #[.val (.ref b2), .val (.int (19 : Int32)), .val (.int (34 : Int32))] [(.int (-15 : Int32))])) (fun _ k => st62 _ (XS.ishr X62.here hx rfl (hb hby d11_9) rfl (XS.istoreN X62.here hx rfl (hb hby d11_10) rfl (l' := #[.val (.ref b2), .val (.int (19 : Int32)), .val (.int (34 : Int32))]) rfl (XS.iloadN X62.here hx rfl (hb hby d11_11) rfl (XS.iloadN X62.here hx rfl (hb hby d11_12) rfl (XS.isub X62.here hx rfl (hb hby d11_13) rfl k)))))) ?_
  refine own_go (T' := T62) (f' := (mkF m 38 #[.val (.ref b2), .val (.int (19 : Int32)), .val (.int (34 : Int32))] [])) (fun _ k => XS.ifYes X62.here hx rfl (pc0 := 14) (pc' := 38) rfl (hb hby d11_14) rfl ((if0 _ _).trans (flt (by decide : ¬ ((0 : Int32) < (-15 : Int32)))).2.2.2) (by decide) (by decide) k) ?_
  refine own_ret X62 (v := none) (fun _ => rfl) Bd.notSynchronized (fun fs hr => X62.returnOut hx Bd.returns (hb hby d11_38) hr) ?_ (by decide) (by decide)
  show Q11a20 Z b2 b58a k58b h0 n0 _ T62.heap _
  exact ⟨rfl, N0, e62⟩
theorem d23_0 : decode jdk_68_method_68_code 0 = .ok (.getstatic 18, 3) := by decide +kernel
theorem d23_3 : decode jdk_68_method_68_code 3 = .ok (.ifCond .eq 14, 3) := by decide +kernel
theorem d23_6 : decode jdk_68_method_68_code 6 = .ok (.aload_n 0, 1) := by decide +kernel
theorem d23_7 : decode jdk_68_method_68_code 7 = .ok (.getfield 22, 3) := by decide +kernel
theorem d23_10 : decode jdk_68_method_68_code 10 = .ok (.ifCond .ne 7, 3) := by decide +kernel
theorem d23_13 : decode jdk_68_method_68_code 13 = .ok (.iconst 1, 1) := by decide +kernel
theorem d23_14 : decode jdk_68_method_68_code 14 = .ok (.goto 4, 3) := by decide +kernel
theorem d23_18 : decode jdk_68_method_68_code 18 = .ok (.ireturn, 1) := by decide +kernel
theorem ef_rm23a21 (m : MethodId) (b2 : Addr) : entryFrame m #[(.ref b2)] 1 = mkF m 0 #[.val (.ref b2)] [] := by first | (simp [entryFrame, mkF, argsToLocals, Value.category]; done) | rfl
def Q23a21 (Z : State) (b2 : Addr) (cs : Int32) (h0 : Heap) (n0 : Nat) (v : Option Value) (h : Heap) (L : List Loc) : Prop := v = some (.int (1 : Int32)) ∧ Fr n0 L ∧ h = h0
set_option maxRecDepth 65536 in
set_option maxHeartbeats 40000000 in
theorem rm23a21 (l : Launch) (Z : State) (a0 : Array Value) (hw : ∀ d ∈ tables_1, d.before a0 Z = true) (ws : List Jvm.Cond) (b2 : Addr) (cs : Int32) (h0 : Heap) (n0 : Nat) (Z0 : n0 ≤ h0.size) (PS0 : Sta Z h0 "java/lang/String" "COMPACT_STRINGS" "Z" (.int cs)) (PF9 : Fld Z h0 b2 "java/lang/AbstractStringBuilder" "coder" "B" (.int (0 : Int32))) (PP0 : ¬ (cs = (0 : Int32))) :
    MetFree l mn18 (head1 (Jvm.Cond.code mn18 jdk_68_method_68_code 1 (some .boolean) :: ws) ({ frames := 0, cells := 0, slots := 0, locals := 0 } : Room)) (fun a U => a = #[(.ref b2)] ∧ Z.Warmed39 U.vm ∧ U.heap = h0) (fun _ _ _ _ _ => True) (fun _ U o U' => ∃ v L, o = .returned v ∧ Q23a21 Z b2 cs h0 n0 v U'.heap L ∧ FrameEnd U o U' L ({ frames := 0, cells := 0, slots := 0, locals := 0 } : Room).cells ({ frames := 0, cells := 0, slots := 0, locals := 0 } : Room).slots) := by
  refine MetFree.of_bodySF (plainFor_of_name pn_3) hisR ?_
  intro p e s m args below meth c s₁ Bd hml0 hP hK
  obtain ⟨rfl, hZ, hh⟩ := hP
  have hx := Bd.exec
  have hby := Bd.bytes
  have hml : c.maxLocals = 1 := hml0
  have hown : s.vm.findClass "java/lang/AbstractStringBuilder" = some m.cls := findClass_of_methodNamed Bd.named
  have hnm := (name_of_methodNamed Bd.named Bd.method).1
  have X0 : Stand p l e ({ frames := 0, cells := 0, slots := 0, locals := 0 } : Room) s m #[(.ref b2)] below meth c s₁ [] 0 0 := Stand.of_body Bd
  have e0 : s₁.heap = h0 := by rw [← hh, Bd.state]; rfl
  have N0 := Fr.nil n0
  show own_Ends p e below s (Q23a21 Z b2 cs h0 n0) _ _ s₁ _
  rw [ef_rm23a21 m b2]
  obtain ⟨T64, X64, e64, st64⟩ := getS2 X0 hx hZ hown (host := "") (Or.inl (ow44 hw)) Via.refl e0 PS0 (g := (mkF m 0 #[.val (.ref b2)] [])) rfl (hb hby d23_0)
  refine own_go (T' := T64) (f' := (mkF m 7 #[.val (.ref b2)] [(.ref b2)])) (fun _ k => st64 _ (XS.ifNo X64.here hx rfl (hb hby d23_3) rfl ((if0 _ _).trans (feq PP0).1) (XS.aloadN X64.here hx rfl (hb hby d23_6) rfl rfl k))) ?_
  obtain ⟨T65, X65, e65, st65⟩ := getF X64 hx hZ hown (host := "") (Or.inl (ow47 hw)) Via.refl e64 PF9 (g := (mkF m 7 #[.val (.ref b2)] [(.ref b2)])) rfl rfl (hb hby d23_7)
  refine own_go (T' := T65) (f' := (mkF m 18 #[.val (.ref b2)] [(.int (1 : Int32))])) (fun _ k => st65 _ (XS.ifNo X65.here hx rfl (hb hby d23_10) rfl ((if0 _ _).trans (teq (by decide : ((0 : Int32) = (0 : Int32)))).2) (XS.iconst X65.here hx rfl (hb hby d23_13) (XS.goto X65.here hx rfl (pc0 := 14) (pc' := 18) rfl (hb hby d23_14) (by decide) (by decide) k)))) ?_
  refine own_ret X65 (v := some (.int (1 : Int32))) (fun h => by rw [Bd.returns] at h; cases h) Bd.notSynchronized (fun fs hr => retN X65 hx (t := .boolean) Bd.returns (by simp) (hb hby d23_18) hr) ?_ (by decide) (by decide)
  show Q23a21 Z b2 cs h0 n0 _ T65.heap _
  exact ⟨rfl, N0, e65⟩
theorem pd6 : parseMethodDescriptor "()Z" = some ⟨[], some .boolean⟩ := by decide +kernel
theorem d24_0 : decode jdk_33_method_12_code 0 = .ok (.iload_n 1, 1) := by decide +kernel
theorem d24_1 : decode jdk_33_method_12_code 1 = .ok (.istore 5, 2) := by decide +kernel
theorem d24_3 : decode jdk_33_method_12_code 3 = .ok (.iload_n 0, 1) := by decide +kernel
theorem d24_4 : decode jdk_33_method_12_code 4 = .ok (.ifCond .ge 7, 3) := by decide +kernel
theorem d24_11 : decode jdk_33_method_12_code 11 = .ok (.iconst 0, 1) := by decide +kernel
theorem d24_12 : decode jdk_33_method_12_code 12 = .ok (.istore 6, 2) := by decide +kernel
theorem d24_14 : decode jdk_33_method_12_code 14 = .ok (.iload 6, 2) := by decide +kernel
theorem d24_16 : decode jdk_33_method_12_code 16 = .ok (.ifCond .ne 6, 3) := by decide +kernel
theorem d24_19 : decode jdk_33_method_12_code 19 = .ok (.iload_n 0, 1) := by decide +kernel
theorem d24_20 : decode jdk_33_method_12_code 20 = .ok (.ineg, 1) := by decide +kernel
theorem d24_21 : decode jdk_33_method_12_code 21 = .ok (.istore_n 0, 1) := by decide +kernel
theorem d24_22 : decode jdk_33_method_12_code 22 = .ok (.iload_n 0, 1) := by decide +kernel
theorem d24_23 : decode jdk_33_method_12_code 23 = .ok (.bipush (-100), 2) := by decide +kernel
theorem d24_25 : decode jdk_33_method_12_code 25 = .ok (.if_icmp .gt 47, 3) := by decide +kernel
theorem d24_72 : decode jdk_33_method_12_code 72 = .ok (.aload_n 2, 1) := by decide +kernel
theorem d24_73 : decode jdk_33_method_12_code 73 = .ok (.iinc 5 (-1), 3) := by decide +kernel
theorem d24_76 : decode jdk_33_method_12_code 76 = .ok (.iload 5, 2) := by decide +kernel
theorem d24_78 : decode jdk_33_method_12_code 78 = .ok (.getstatic 83, 3) := by decide +kernel
theorem d24_81 : decode jdk_33_method_12_code 81 = .ok (.iload_n 0, 1) := by decide +kernel
theorem d24_82 : decode jdk_33_method_12_code 82 = .ok (.ineg, 1) := by decide +kernel
theorem d24_83 : decode jdk_33_method_12_code 83 = .ok (.baload, 1) := by decide +kernel
theorem d24_84 : decode jdk_33_method_12_code 84 = .ok (.bastore, 1) := by decide +kernel
theorem d24_85 : decode jdk_33_method_12_code 85 = .ok (.iload_n 0, 1) := by decide +kernel
theorem d24_86 : decode jdk_33_method_12_code 86 = .ok (.bipush (-9), 2) := by decide +kernel
theorem d24_88 : decode jdk_33_method_12_code 88 = .ok (.if_icmp .ge 16, 3) := by decide +kernel
theorem d24_104 : decode jdk_33_method_12_code 104 = .ok (.iload 6, 2) := by decide +kernel
theorem d24_106 : decode jdk_33_method_12_code 106 = .ok (.ifCond .eq 12, 3) := by decide +kernel
theorem d24_118 : decode jdk_33_method_12_code 118 = .ok (.iload 5, 2) := by decide +kernel
theorem d24_120 : decode jdk_33_method_12_code 120 = .ok (.ireturn, 1) := by decide +kernel
theorem ef_rm24a22 (m : MethodId) (b58a : Addr) : entryFrame m #[(.int (0 : Int32)), (.int (19 : Int32)), (.ref b58a)] 7 = mkF m 0 #[.val (.int (0 : Int32)), .val (.int (19 : Int32)), .val (.ref b58a), .unset, .unset, .unset, .unset] [] := by first | (simp [entryFrame, mkF, argsToLocals, Value.category]; done) | rfl
def Q24a22 (Z : State) (b58a : Addr) (wd : Addr) (kd : ClassId) (vd : List Value) (k58b : ClassId) (h0 : Heap) (n0 : Nat) (v : Option Value) (h : Heap) (L : List Loc) : Prop := v = some (.int (18 : Int32)) ∧ Fr n0 L ∧ Keep h0 h [b58a] ∧ Arv Z h b58a k58b .byte (34 : Int32) [(.int (101 : Int32)), (.int (120 : Int32)), (.int (112 : Int32)), (.int (101 : Int32)), (.int (99 : Int32)), (.int (116 : Int32)), (.int (101 : Int32)), (.int (100 : Int32)), (.int (32 : Int32)), (.int (97 : Int32)), (.int (116 : Int32)), (.int (32 : Int32)), (.int (108 : Int32)), (.int (101 : Int32)), (.int (97 : Int32)), (.int (115 : Int32)), (.int (116 : Int32)), (.int (32 : Int32)), (.int (nar .byte (own_el vd (0 : Int32)))), (.int (0 : Int32)), (.int (0 : Int32)), (.int (0 : Int32)), (.int (0 : Int32)), (.int (0 : Int32)), (.int (0 : Int32)), (.int (0 : Int32)), (.int (0 : Int32)), (.int (0 : Int32)), (.int (0 : Int32)), (.int (0 : Int32)), (.int (0 : Int32)), (.int (0 : Int32)), (.int (0 : Int32)), (.int (0 : Int32))] (.int (0 : Int32))
set_option maxRecDepth 65536 in
set_option maxHeartbeats 40000000 in
theorem rm24a22 (l : Launch) (Z : State) (a0 : Array Value) (hw : ∀ d ∈ tables_1, d.before a0 Z = true) (ws : List Jvm.Cond) (b58a : Addr) (wd : Addr) (kd : ClassId) (vd : List Value) (k58b : ClassId) (h0 : Heap) (n0 : Nat) (Z0 : n0 ≤ h0.size) (PS1 : Sta Z h0 "java/lang/Integer" "DigitOnes" "[B" (.ref wd)) (PV2 : Arv Z h0 wd kd .byte (100 : Int32) vd (.int (0 : Int32))) (PV16 : Arv Z h0 b58a k58b .byte (34 : Int32) own_ls4 (.int (0 : Int32))) (hi_vd : own_Ints vd) (n_b58a : n0 ≤ b58a) :
    MetFree l mn19 (head1 (Jvm.Cond.code mn19 jdk_33_method_12_code 7 (some .int) :: ws) ({ frames := 0, cells := 0, slots := 0, locals := 0 } : Room)) (fun a U => a = #[(.int (0 : Int32)), (.int (19 : Int32)), (.ref b58a)] ∧ Z.Warmed39 U.vm ∧ U.heap = h0) (fun _ _ _ _ _ => True) (fun _ U o U' => ∃ v L, o = .returned v ∧ Q24a22 Z b58a wd kd vd k58b h0 n0 v U'.heap L ∧ FrameEnd U o U' L ({ frames := 0, cells := 0, slots := 0, locals := 0 } : Room).cells ({ frames := 0, cells := 0, slots := 0, locals := 0 } : Room).slots) := by
  refine MetFree.of_bodySF (plainFor_of_name pn_4) hisR ?_
  intro p e s m args below meth c s₁ Bd hml0 hP hK
  obtain ⟨rfl, hZ, hh⟩ := hP
  have hx := Bd.exec
  have hby := Bd.bytes
  have hml : c.maxLocals = 7 := hml0
  have hown : s.vm.findClass "java/lang/Integer" = some m.cls := findClass_of_methodNamed Bd.named
  have hnm := (name_of_methodNamed Bd.named Bd.method).1
  have X0 : Stand p l e ({ frames := 0, cells := 0, slots := 0, locals := 0 } : Room) s m #[(.int (0 : Int32)), (.int (19 : Int32)), (.ref b58a)] below meth c s₁ [] 0 0 := Stand.of_body Bd
  have e0 : s₁.heap = h0 := by rw [← hh, Bd.state]; rfl
  have N0 := Fr.nil n0
  show own_Ends p e below s (Q24a22 Z b58a wd kd vd k58b h0 n0) _ _ s₁ _
  rw [ef_rm24a22 m b58a]
  refine own_go (T' := s₁) (f' := (mkF m 14 #[.val (.int (0 : Int32)), .val (.int (19 : Int32)), .val (.ref b58a), .unset, .unset, .val (.int (19 : Int32)), .val (.int (0 : Int32))] [])) (fun _ k => XS.iloadN X0.here hx rfl (hb hby d24_0) rfl (XS.istore X0.here hx rfl (hb hby d24_1) rfl (l' := #[.val (.int (0 : Int32)), .val (.int (19 : Int32)), .val (.ref b58a), .unset, .unset, .val (.int (19 : Int32)), .unset]) rfl (XS.iloadN X0.here hx rfl (hb hby d24_3) rfl (XS.ifYes X0.here hx rfl (pc0 := 4) (pc' := 11) rfl (hb hby d24_4) rfl ((if0 _ _).trans (flt (by decide : ¬ ((0 : Int32) < (0 : Int32)))).2.1) (by decide) (by decide) (XS.iconst X0.here hx rfl (hb hby d24_11) (XS.istore X0.here hx rfl (hb hby d24_12) rfl (l' := #[.val (.int (0 : Int32)), .val (.int (19 : Int32)), .val (.ref b58a), .unset, .unset, .val (.int (19 : Int32)), .val (.int (0 : Int32))]) rfl k)))))) ?_
  refine own_go (T' := s₁) (f' := (mkF m 23 #[.val (.int (0 : Int32)), .val (.int (19 : Int32)), .val (.ref b58a), .unset, .unset, .val (.int (19 : Int32)), .val (.int (0 : Int32))] [(.int (0 : Int32))])) (fun _ k => XS.iload X0.here hx rfl (hb hby d24_14) rfl (XS.ifNo X0.here hx rfl (hb hby d24_16) rfl ((if0 _ _).trans (teq (by decide : ((0 : Int32) = (0 : Int32)))).2) (XS.iloadN X0.here hx rfl (hb hby d24_19) rfl (XS.ineg X0.here hx rfl (hb hby d24_20) rfl (XS.istoreN X0.here hx rfl (hb hby d24_21) rfl (l' := #[.val (.int (0 : Int32)), .val (.int (19 : Int32)), .val (.ref b58a), .unset, .unset, .val (.int (19 : Int32)), .val (.int (0 : Int32))]) rfl (XS.iloadN X0.here hx rfl (hb hby d24_22) rfl k)))))) ?_
  refine own_go (T' := s₁) (f' := (mkF m 78 #[.val (.int (0 : Int32)), .val (.int (19 : Int32)), .val (.ref b58a), .unset, .unset, .val (.int (18 : Int32)), .val (.int (0 : Int32))] [(.int (18 : Int32)), (.ref b58a)])) (fun _ k => XS.bipush X0.here hx rfl (hb hby d24_23) (XS.icmpYes X0.here hx rfl (pc0 := 25) (pc' := 72) rfl (hb hby d24_25) rfl (tlt (by decide : ((-100 : Int32) < (0 : Int32)))).2.2.1 (by decide) (by decide) (XS.aloadN X0.here hx rfl (hb hby d24_72) rfl rfl (XS.iinc X0.here hx rfl (hb hby d24_73) rfl (l' := #[.val (.int (0 : Int32)), .val (.int (19 : Int32)), .val (.ref b58a), .unset, .unset, .val (.int (18 : Int32)), .val (.int (0 : Int32))]) rfl (XS.iload X0.here hx rfl (hb hby d24_76) rfl k))))) ?_
  obtain ⟨T68, X68, e68, st68⟩ := getS2 X0 hx hZ hown (host := "") (Or.inl (ow144 hw)) Via.refl e0 PS1 (g := (mkF m 78 #[.val (.int (0 : Int32)), .val (.int (19 : Int32)), .val (.ref b58a), .unset, .unset, .val (.int (18 : Int32)), .val (.int (0 : Int32))] [(.int (18 : Int32)), (.ref b58a)])) rfl (hb hby d24_78)
  refine own_go (T' := T68) (f' := (mkF m 84 #[.val (.int (0 : Int32)), .val (.int (19 : Int32)), .val (.ref b58a), .unset, .unset, .val (.int (18 : Int32)), .val (.int (0 : Int32))] [(.int (own_el vd (0 : Int32))), (.int (18 : Int32)), (.ref b58a)])) (fun _ k => st68 _ (XS.iloadN X68.here hx rfl (hb hby d24_81) rfl (XS.ineg X68.here hx rfl (hb hby d24_82) rfl (own_ldB X68 hx hZ e68 PV2 (j := (0 : Int32)) (x := (own_el vd (0 : Int32))) ⟨by decide, by decide⟩ (own_el_at hi_vd _) rfl rfl (hb hby d24_83) k)))) ?_
  obtain ⟨T69, h69, X69, e69, W69, V69, st69⟩ := own_stB X68 hx hZ e68 PV16 (j := (18 : Int32)) ⟨by decide, by decide⟩ 18 rfl (Nat.le_of_ble_eq_true rfl) (g := (mkF m 84 #[.val (.int (0 : Int32)), .val (.int (19 : Int32)), .val (.ref b58a), .unset, .unset, .val (.int (18 : Int32)), .val (.int (0 : Int32))] [(.int (own_el vd (0 : Int32))), (.int (18 : Int32)), (.ref b58a)])) rfl rfl (hb hby d24_84)
  have K69 : Keep h0 h69 [b58a] := (Keep.refl h0 [b58a]).wr W69 (Or.inl (List.mem_of_getElem? (i := 0) rfl))
  have V69s : Arv Z h69 b58a k58b .byte (34 : Int32) [(.int (101 : Int32)), (.int (120 : Int32)), (.int (112 : Int32)), (.int (101 : Int32)), (.int (99 : Int32)), (.int (116 : Int32)), (.int (101 : Int32)), (.int (100 : Int32)), (.int (32 : Int32)), (.int (97 : Int32)), (.int (116 : Int32)), (.int (32 : Int32)), (.int (108 : Int32)), (.int (101 : Int32)), (.int (97 : Int32)), (.int (115 : Int32)), (.int (116 : Int32)), (.int (32 : Int32)), (.int (nar .byte (own_el vd (0 : Int32)))), (.int (0 : Int32)), (.int (0 : Int32)), (.int (0 : Int32)), (.int (0 : Int32)), (.int (0 : Int32)), (.int (0 : Int32)), (.int (0 : Int32)), (.int (0 : Int32)), (.int (0 : Int32)), (.int (0 : Int32)), (.int (0 : Int32)), (.int (0 : Int32)), (.int (0 : Int32)), (.int (0 : Int32)), (.int (0 : Int32))] (.int (0 : Int32)) := V69
  have N69 := Fr.snoc X69 N0 n_b58a
  refine own_go (T' := T69) (f' := (mkF m 118 #[.val (.int (0 : Int32)), .val (.int (19 : Int32)), .val (.ref b58a), .unset, .unset, .val (.int (18 : Int32)), .val (.int (0 : Int32))] [])) (fun _ k => st69 _ (XS.iloadN X69.here hx rfl (hb hby d24_85) rfl (XS.bipush X69.here hx rfl (hb hby d24_86) (XS.icmpYes X69.here hx rfl (pc0 := 88) (pc' := 104) rfl (hb hby d24_88) rfl (flt (by decide : ¬ ((0 : Int32) < (-9 : Int32)))).2.1 (by decide) (by decide) (XS.iload X69.here hx rfl (hb hby d24_104) rfl (XS.ifYes X69.here hx rfl (pc0 := 106) (pc' := 118) rfl (hb hby d24_106) rfl ((if0 _ _).trans (teq (by decide : ((0 : Int32) = (0 : Int32)))).1) (by decide) (by decide) k)))))) ?_
  refine own_go (T' := T69) (f' := (mkF m 120 #[.val (.int (0 : Int32)), .val (.int (19 : Int32)), .val (.ref b58a), .unset, .unset, .val (.int (18 : Int32)), .val (.int (0 : Int32))] [(.int (18 : Int32))])) (fun _ k => XS.iload X69.here hx rfl (hb hby d24_118) rfl k) ?_
  refine own_ret X69 (v := some (.int (18 : Int32))) (fun h => by rw [Bd.returns] at h; cases h) Bd.notSynchronized (fun fs hr => retI X69 hx Bd.returns (hb hby d24_120) hr) ?_ (by decide) (by decide)
  show Q24a22 Z b58a wd kd vd k58b h0 n0 _ T69.heap _
  rw [e69]
  exact ⟨rfl, N69, K69, V69s⟩
theorem pd16 : parseMethodDescriptor "(II[B)I" = some ⟨[.int, .int, (.array .byte)], some .int⟩ := by decide +kernel
theorem d21_0 : decode jdk_68_method_32_code 0 = .ok (.aload_n 0, 1) := by decide +kernel
theorem d21_1 : decode jdk_68_method_32_code 1 = .ok (.getfield 79, 3) := by decide +kernel
theorem d21_4 : decode jdk_68_method_32_code 4 = .ok (.istore_n 2, 1) := by decide +kernel
theorem d21_5 : decode jdk_68_method_32_code 5 = .ok (.iload_n 2, 1) := by decide +kernel
theorem d21_6 : decode jdk_68_method_32_code 6 = .ok (.iload_n 1, 1) := by decide +kernel
theorem d21_7 : decode jdk_68_method_32_code 7 = .ok (.invokestatic 245, 3) := by decide +kernel
theorem d21_10 : decode jdk_68_method_32_code 10 = .ok (.iadd, 1) := by decide +kernel
theorem d21_11 : decode jdk_68_method_32_code 11 = .ok (.istore_n 3, 1) := by decide +kernel
theorem d21_12 : decode jdk_68_method_32_code 12 = .ok (.aload_n 0, 1) := by decide +kernel
theorem d21_13 : decode jdk_68_method_32_code 13 = .ok (.iload_n 3, 1) := by decide +kernel
theorem d21_14 : decode jdk_68_method_32_code 14 = .ok (.invokevirtual 100, 3) := by decide +kernel
theorem d21_17 : decode jdk_68_method_32_code 17 = .ok (.aload_n 0, 1) := by decide +kernel
theorem d21_18 : decode jdk_68_method_32_code 18 = .ok (.invokevirtual 83, 3) := by decide +kernel
theorem d21_21 : decode jdk_68_method_32_code 21 = .ok (.ifCond .eq 16, 3) := by decide +kernel
theorem d21_24 : decode jdk_68_method_32_code 24 = .ok (.iload_n 1, 1) := by decide +kernel
theorem d21_25 : decode jdk_68_method_32_code 25 = .ok (.iload_n 3, 1) := by decide +kernel
theorem d21_26 : decode jdk_68_method_32_code 26 = .ok (.aload_n 0, 1) := by decide +kernel
theorem d21_27 : decode jdk_68_method_32_code 27 = .ok (.getfield 15, 3) := by decide +kernel
theorem d21_30 : decode jdk_68_method_32_code 30 = .ok (.invokestatic 248, 3) := by decide +kernel
theorem d21_33 : decode jdk_68_method_32_code 33 = .ok (.pop, 1) := by decide +kernel
theorem d21_34 : decode jdk_68_method_32_code 34 = .ok (.goto 14, 3) := by decide +kernel
theorem d21_48 : decode jdk_68_method_32_code 48 = .ok (.aload_n 0, 1) := by decide +kernel
theorem d21_49 : decode jdk_68_method_32_code 49 = .ok (.iload_n 3, 1) := by decide +kernel
theorem d21_50 : decode jdk_68_method_32_code 50 = .ok (.putfield 79, 3) := by decide +kernel
theorem d21_53 : decode jdk_68_method_32_code 53 = .ok (.aload_n 0, 1) := by decide +kernel
theorem d21_54 : decode jdk_68_method_32_code 54 = .ok (.areturn, 1) := by decide +kernel
theorem ef_rm21a18 (m : MethodId) (b2 : Addr) : entryFrame m #[(.ref b2), (.int (0 : Int32))] 4 = mkF m 0 #[.val (.ref b2), .val (.int (0 : Int32)), .unset, .unset] [] := by first | (simp [entryFrame, mkF, argsToLocals, Value.category]; done) | rfl
def Q21a18 (Z : State) (b2 : Addr) (cs : Int32) (wd : Addr) (kd : ClassId) (vd : List Value) (b58a : Addr) (k58b : ClassId) (h0 : Heap) (n0 : Nat) (v : Option Value) (h : Heap) (L : List Loc) : Prop := v = some (.ref b2) ∧ Fr n0 L ∧ Keep h0 h [b58a, b2] ∧ Arv Z h b58a k58b .byte (34 : Int32) [(.int (101 : Int32)), (.int (120 : Int32)), (.int (112 : Int32)), (.int (101 : Int32)), (.int (99 : Int32)), (.int (116 : Int32)), (.int (101 : Int32)), (.int (100 : Int32)), (.int (32 : Int32)), (.int (97 : Int32)), (.int (116 : Int32)), (.int (32 : Int32)), (.int (108 : Int32)), (.int (101 : Int32)), (.int (97 : Int32)), (.int (115 : Int32)), (.int (116 : Int32)), (.int (32 : Int32)), (.int (nar .byte (own_el vd (0 : Int32)))), (.int (0 : Int32)), (.int (0 : Int32)), (.int (0 : Int32)), (.int (0 : Int32)), (.int (0 : Int32)), (.int (0 : Int32)), (.int (0 : Int32)), (.int (0 : Int32)), (.int (0 : Int32)), (.int (0 : Int32)), (.int (0 : Int32)), (.int (0 : Int32)), (.int (0 : Int32)), (.int (0 : Int32)), (.int (0 : Int32))] (.int (0 : Int32)) ∧ Fld Z h b2 "java/lang/AbstractStringBuilder" "value" "[B" (.ref b58a) ∧ Fld Z h b2 "java/lang/AbstractStringBuilder" "coder" "B" (.int (0 : Int32)) ∧ Fld Z h b2 "java/lang/AbstractStringBuilder" "count" "I" (.int (19 : Int32))
set_option maxRecDepth 65536 in
set_option maxHeartbeats 40000000 in
theorem rm21a18 (l : Launch) (Z : State) (a0 : Array Value) (hw : ∀ d ∈ tables_1, d.before a0 Z = true) (ws : List Jvm.Cond) (b2 : Addr) (cs : Int32) (wd : Addr) (kd : ClassId) (vd : List Value) (b58a : Addr) (k58b : ClassId) (h0 : Heap) (n0 : Nat) (Z0 : n0 ≤ h0.size) (PS0 : Sta Z h0 "java/lang/String" "COMPACT_STRINGS" "Z" (.int cs)) (PS1 : Sta Z h0 "java/lang/Integer" "DigitOnes" "[B" (.ref wd)) (PV2 : Arv Z h0 wd kd .byte (100 : Int32) vd (.int (0 : Int32))) (PE7 : Exa Z h0 b2 "java/lang/StringBuilder") (PF8 : Fld Z h0 b2 "java/lang/AbstractStringBuilder" "value" "[B" (.ref b58a)) (PF9 : Fld Z h0 b2 "java/lang/AbstractStringBuilder" "coder" "B" (.int (0 : Int32))) (PF10 : Fld Z h0 b2 "java/lang/AbstractStringBuilder" "count" "I" (.int (18 : Int32))) (PV16 : Arv Z h0 b58a k58b .byte (34 : Int32) own_ls4 (.int (0 : Int32))) (PP0 : ¬ (cs = (0 : Int32))) (hi_vd : own_Ints vd) (ne_b2_b58a : b2 ≠ b58a) (ne_b58a_b2 : b58a ≠ b2) (n_b2 : n0 ≤ b2) (n_b58a : n0 ≤ b58a) :
    MetFree l mn20 (head1 (Jvm.Cond.code mn20 jdk_68_method_32_code 4 (some (.object "java/lang/AbstractStringBuilder")) :: ws) ({ frames := 1, cells := 0, slots := 0, locals := 18 } : Room)) (fun a U => a = #[(.ref b2), (.int (0 : Int32))] ∧ Z.Warmed39 U.vm ∧ U.heap = h0) (fun _ _ _ _ _ => True) (fun _ U o U' => ∃ v L, o = .returned v ∧ Q21a18 Z b2 cs wd kd vd b58a k58b h0 n0 v U'.heap L ∧ FrameEnd U o U' L ({ frames := 1, cells := 0, slots := 0, locals := 18 } : Room).cells ({ frames := 1, cells := 0, slots := 0, locals := 18 } : Room).slots) := by
  refine MetFree.of_bodySF (plainFor_of_name pn_3) hisR ?_
  intro p e s m args below meth c s₁ Bd hml0 hP hK
  obtain ⟨rfl, hZ, hh⟩ := hP
  have hx := Bd.exec
  have hby := Bd.bytes
  have hml : c.maxLocals = 4 := hml0
  have hown : s.vm.findClass "java/lang/AbstractStringBuilder" = some m.cls := findClass_of_methodNamed Bd.named
  have hnm := (name_of_methodNamed Bd.named Bd.method).1
  have X0 : Stand p l e ({ frames := 1, cells := 0, slots := 0, locals := 18 } : Room) s m #[(.ref b2), (.int (0 : Int32))] below meth c s₁ [] 0 0 := Stand.of_body Bd
  have e0 : s₁.heap = h0 := by rw [← hh, Bd.state]; rfl
  have N0 := Fr.nil n0
  show own_Ends p e below s (Q21a18 Z b2 cs wd kd vd b58a k58b h0 n0) _ _ s₁ _
  rw [ef_rm21a18 m b2]
  refine own_go (T' := s₁) (f' := (mkF m 1 #[.val (.ref b2), .val (.int (0 : Int32)), .unset, .unset] [(.ref b2)])) (fun _ k => XS.aloadN X0.here hx rfl (hb hby d21_0) rfl rfl k) ?_
  obtain ⟨T59, X59, e59, st59⟩ := getF X0 hx hZ hown (host := "") (Or.inl (ow73 hw)) Via.refl e0 PF10 (g := (mkF m 1 #[.val (.ref b2), .val (.int (0 : Int32)), .unset, .unset] [(.ref b2)])) rfl rfl (hb hby d21_1)
  refine own_go (T' := T59) (f' := (mkF m 7 #[.val (.ref b2), .val (.int (0 : Int32)), .val (.int (18 : Int32)), .unset] [(.int (0 : Int32)), (.int (18 : Int32))])) (fun _ k => st59 _ (XS.istoreN X59.here hx rfl (hb hby d21_4) rfl (l' := #[.val (.ref b2), .val (.int (0 : Int32)), .val (.int (18 : Int32)), .unset]) rfl (XS.iloadN X59.here hx rfl (hb hby d21_5) rfl (XS.iloadN X59.here hx rfl (hb hby d21_6) rfl k)))) ?_
  obtain ⟨_, _, ⟨T60, L60, k60, n60⟩, -, X60, ⟨Lc60, hQ60, l60, y60, z60⟩, st60⟩ := Jvm.LawKit.callS X59 hx (y := mn17) hown (mvT hZ (ow132 hw)) (mvT hZ (ow133 hw)) (mvT hZ (ow134 hw)) (mvT hZ (ow135 hw)) (by decide) (backOf (W := 1) (rm22a19 l Z a0 hw []  h0 n0 Z0 ) hZ (ow135 hw) (ow134 hw) (by decide) (by decide)) (g := (mkF m 7 #[.val (.ref b2), .val (.int (0 : Int32)), .val (.int (18 : Int32)), .unset] [(.int (0 : Int32)), (.int (18 : Int32))])) rfl (by rw [hml]; rfl) (argsL := [(.int (0 : Int32))]) (rest := [(.int (18 : Int32))]) (lenOf pd8 rfl) rfl (by show 2 * 0 + _ ≤ _; exact Nat.le_of_eq rfl) (hb hby d21_7) (fun _ _ => ⟨rfl, e59, (by decide : 0 + 0 ≤ _), (by decide : 0 + 0 ≤ _)⟩)
  dsimp only [Pt.U, Pt.locs, Pt.cells, Pt.slots] at X60 l60 y60 z60 st60 hQ60
  subst l60 y60 z60
  obtain ⟨rfl, N60q, hh60⟩ := hQ60
  have N60 := Fr.app N0 N60q
  refine own_go (T' := T60) (f' := (mkF m 14 #[.val (.ref b2), .val (.int (0 : Int32)), .val (.int (18 : Int32)), .val (.int (19 : Int32))] [(.int (19 : Int32)), (.ref b2)])) (fun _ k => st60 _ (XS.iadd X60.here hx rfl (hb hby d21_10) rfl (XS.istoreN X60.here hx rfl (hb hby d21_11) rfl (l' := #[.val (.ref b2), .val (.int (0 : Int32)), .val (.int (18 : Int32)), .val (.int (19 : Int32))]) rfl (XS.aloadN X60.here hx rfl (hb hby d21_12) rfl rfl (XS.iloadN X60.here hx rfl (hb hby d21_13) rfl k))))) ?_
  obtain ⟨cq63, q63, q63'⟩ := PE7.cell
  obtain ⟨_, _, ⟨T63, L63, k63, n63⟩, -, X63, ⟨Lc63, hQ63, l63, y63, z63⟩, st63⟩ := X60.privateBack hx (y := mn11) hown (mvT hZ (ow75 hw)) (mvT hZ (ow76 hw)) (own_selp (mvT hZ (ow78 hw)) (Cond.privateMethod_at (mvP hZ (ow77 hw) (args := #[]))) (mvT hZ (ow76 hw)) (by decide)) (Cond.privateMethod_at (mvP hZ (ow77 hw) (args := #[]))) (mvT hZ (ow79 hw)) (by decide) (backOf (W := 0) (rm11a20 l Z a0 hw [] b2 b58a k58b h0 n0 Z0 PF8 PF9 PV16) hZ (ow79 hw) (ow41 hw) (by decide) (by decide)) (g := (mkF m 14 #[.val (.ref b2), .val (.int (0 : Int32)), .val (.int (18 : Int32)), .val (.int (19 : Int32))] [(.int (19 : Int32)), (.ref b2)])) rfl (by rw [hml]; rfl) (Steps.refl _) (a := b2) (by rw [hh60]; exact q63) q63' (argsL := [(.int (19 : Int32))]) (rest := []) (lenOf pd12 rfl) rfl (by show 2 * 0 + _ ≤ _; exact Nat.le_of_eq rfl) (hb hby d21_14) (fun _ _ => ⟨rfl, hh60, (by decide : 0 + 0 ≤ _), (by decide : 0 + 0 ≤ _)⟩)
  dsimp only [Pt.U, Pt.locs, Pt.cells, Pt.slots] at X63 l63 y63 z63 st63 hQ63
  subst l63 y63 z63
  obtain ⟨rfl, N63q, hh63⟩ := hQ63
  have N63 := Fr.app N60 N63q
  refine own_go (T' := T63) (f' := (mkF m 18 #[.val (.ref b2), .val (.int (0 : Int32)), .val (.int (18 : Int32)), .val (.int (19 : Int32))] [(.ref b2)])) (fun _ k => st63.trans (XS.aloadN X63.here hx rfl (hb hby d21_17) rfl rfl k)) ?_
  obtain ⟨cq66, kq66, q66a, q66b, q66c⟩ := isOf hZ hh63 PE7
  obtain ⟨_, _, ⟨T66, L66, k66, n66⟩, -, X66, ⟨Lc66, hQ66, l66, y66, z66⟩, st66⟩ := X63.virtualBack hx (y := mn18) (z := mn18) hown (mvT hZ (ow136 hw)) (mvT hZ (ow137 hw)) (notFace_of_selects (args := #[]) (mvT hZ (ow139 hw))) (mvT hZ (ow139 hw)) (mvT hZ (ow138 hw)) (by decide) (backOf (W := 0) (rm23a21 l Z a0 hw [] b2 cs h0 n0 Z0 PS0 PF9 PP0) hZ (ow140 hw) (ow41 hw) (by decide) (by decide)) q66a q66c (g := (mkF m 18 #[.val (.ref b2), .val (.int (0 : Int32)), .val (.int (18 : Int32)), .val (.int (19 : Int32))] [(.ref b2)])) rfl (by rw [hml]; rfl) (Steps.refl _) (argsL := []) (rest := []) (lenOf pd6 rfl) rfl (by show 2 * 0 + _ ≤ _; exact Nat.le_of_eq rfl) (hb hby d21_18) (fun _ _ => ⟨rfl, hh63, (by decide : 0 + 0 ≤ _), (by decide : 0 + 0 ≤ _)⟩)
  dsimp only [Pt.U, Pt.locs, Pt.cells, Pt.slots] at X66 l66 y66 z66 st66 hQ66
  subst l66 y66 z66
  obtain ⟨rfl, N66q, hh66⟩ := hQ66
  have N66 := Fr.app N63 N66q
  refine own_go (T' := T66) (f' := (mkF m 27 #[.val (.ref b2), .val (.int (0 : Int32)), .val (.int (18 : Int32)), .val (.int (19 : Int32))] [(.ref b2), (.int (19 : Int32)), (.int (0 : Int32))])) (fun _ k => st66.trans (XS.ifNo X66.here hx rfl (hb hby d21_21) rfl ((if0 _ _).trans (feq (by decide : ¬ ((1 : Int32) = (0 : Int32)))).1) (XS.iloadN X66.here hx rfl (hb hby d21_24) rfl (XS.iloadN X66.here hx rfl (hb hby d21_25) rfl (XS.aloadN X66.here hx rfl (hb hby d21_26) rfl rfl k))))) ?_
  obtain ⟨T67, X67, e67, st67⟩ := getF X66 hx hZ hown (host := "") (Or.inl (ow45 hw)) Via.refl hh66 PF8 (g := (mkF m 27 #[.val (.ref b2), .val (.int (0 : Int32)), .val (.int (18 : Int32)), .val (.int (19 : Int32))] [(.ref b2), (.int (19 : Int32)), (.int (0 : Int32))])) rfl rfl (hb hby d21_27)
  refine own_go (T' := T67) (f' := (mkF m 30 #[.val (.ref b2), .val (.int (0 : Int32)), .val (.int (18 : Int32)), .val (.int (19 : Int32))] [(.ref b58a), (.int (19 : Int32)), (.int (0 : Int32))])) (fun _ k => st67 _ k) ?_
  obtain ⟨_, _, ⟨T70, L70, k70, n70⟩, -, X70, ⟨Lc70, hQ70, l70, y70, z70⟩, st70⟩ := Jvm.LawKit.callS X67 hx (y := mn19) hown (mvT hZ (ow141 hw)) (mvT hZ (ow142 hw)) (mvT hZ (ow134 hw)) (mvT hZ (ow143 hw)) (by decide) (backOf (W := 0) (rm24a22 l Z a0 hw [] b58a wd kd vd k58b h0 n0 Z0 PS1 PV2 PV16 hi_vd n_b58a) hZ (ow143 hw) (ow134 hw) (by decide) (by decide)) (g := (mkF m 30 #[.val (.ref b2), .val (.int (0 : Int32)), .val (.int (18 : Int32)), .val (.int (19 : Int32))] [(.ref b58a), (.int (19 : Int32)), (.int (0 : Int32))])) rfl (by rw [hml]; rfl) (argsL := [(.int (0 : Int32)), (.int (19 : Int32)), (.ref b58a)]) (rest := []) (lenOf pd16 rfl) rfl (by show 2 * 0 + _ ≤ _; exact Nat.le_of_eq rfl) (hb hby d21_30) (fun _ _ => ⟨rfl, e67, (by decide : 0 + 0 ≤ _), (by decide : 0 + 0 ≤ _)⟩)
  dsimp only [Pt.U, Pt.locs, Pt.cells, Pt.slots] at X70 l70 y70 z70 st70 hQ70
  subst l70 y70 z70
  obtain ⟨rfl, N70q, K70, g70_0⟩ := hQ70
  have N70 := Fr.app N66 N70q
  have eK70 : T70.heap = T70.heap := rfl
  have KK70 : Keep h0 T70.heap [b58a, b2] := Keep.trans (Keep.refl h0 [b58a, b2]) K70 (allS (Or.inl (List.mem_of_getElem? (i := 0) rfl)) all0)
  refine own_go (T' := T70) (f' := (mkF m 50 #[.val (.ref b2), .val (.int (0 : Int32)), .val (.int (18 : Int32)), .val (.int (19 : Int32))] [(.int (19 : Int32)), (.ref b2)])) (fun _ k => st70 _ (XS.pop X70.here hx rfl (hb hby d21_33) rfl rfl (XS.goto X70.here hx rfl (pc0 := 34) (pc' := 48) rfl (hb hby d21_34) (by decide) (by decide) (XS.aloadN X70.here hx rfl (hb hby d21_48) rfl rfl (XS.iloadN X70.here hx rfl (hb hby d21_49) rfl k))))) ?_
  obtain ⟨T71, h71, X71, e71, W71, st71⟩ := putF X70 hx hZ hown (host := "") (Or.inl (ow73 hw)) Via.refl eK70 (PF10.keep K70 (ninS ne_b2_b58a nin0)) (PE7.keep K70) (Or.inl (ow74 hw)) (ow32 hw) (ty := .int) (by decide) rfl rfl (g := (mkF m 50 #[.val (.ref b2), .val (.int (0 : Int32)), .val (.int (18 : Int32)), .val (.int (19 : Int32))] [(.int (19 : Int32)), (.ref b2)])) rfl rfl (hb hby d21_50)
  have Fw71 := Fld.same W71 (PF10.keep K70 (ninS ne_b2_b58a nin0))
  have K71 : Keep h0 h71 [b58a, b2] := KK70.wr W71 (Or.inl (List.mem_of_getElem? (i := 1) rfl))
  have N71 := Fr.snoc X71 N70 n_b2
  refine own_go (T' := T71) (f' := (mkF m 54 #[.val (.ref b2), .val (.int (0 : Int32)), .val (.int (18 : Int32)), .val (.int (19 : Int32))] [(.ref b2)])) (fun _ k => st71 _ (XS.aloadN X71.here hx rfl (hb hby d21_53) rfl rfl k)) ?_
  refine own_ret X71 (v := some (.ref b2)) (fun h => by rw [Bd.returns] at h; cases h) Bd.notSynchronized (fun fs hr => own_retA X71 hx Bd.returns rfl rfl (hb hby d21_54) hr) ?_ (by decide) (by decide)
  show Q21a18 Z b2 cs wd kd vd b58a k58b h0 n0 _ T71.heap _
  have G72 := ((PF8.keep K70 (ninS ne_b2_b58a nin0)).other W71 (Or.inr (slot_ne (Or.inl (ow46 hw)) (Or.inl (ow74 hw)) (by decide) (t := (.array .byte)) (t' := .int) (by decide) (by decide))))
  have G73 := ((PF9.keep K70 (ninS ne_b2_b58a nin0)).other W71 (Or.inr (slot_ne (Or.inl (ow48 hw)) (Or.inl (ow74 hw)) (by decide) (t := .byte) (t' := .int) (by decide) (by decide))))
  rw [e71]
  exact ⟨rfl, N71, K71, (g70_0.other W71 ne_b58a_b2), G72, G73, Fw71⟩
theorem pd10 : parseMethodDescriptor "(I)Ljava/lang/AbstractStringBuilder;" = some ⟨[.int], some (.object "java/lang/AbstractStringBuilder")⟩ := by decide +kernel
theorem d20_0 : decode jdk_67_method_15_code 0 = .ok (.aload_n 0, 1) := by decide +kernel
theorem d20_1 : decode jdk_67_method_15_code 1 = .ok (.iload_n 1, 1) := by decide +kernel
theorem d20_2 : decode jdk_67_method_15_code 2 = .ok (.invokespecial 53, 3) := by decide +kernel
theorem d20_5 : decode jdk_67_method_15_code 5 = .ok (.pop, 1) := by decide +kernel
theorem d20_6 : decode jdk_67_method_15_code 6 = .ok (.aload_n 0, 1) := by decide +kernel
theorem d20_7 : decode jdk_67_method_15_code 7 = .ok (.areturn, 1) := by decide +kernel
theorem ef_rm20a17 (m : MethodId) (b2 : Addr) : entryFrame m #[(.ref b2), (.int (0 : Int32))] 2 = mkF m 0 #[.val (.ref b2), .val (.int (0 : Int32))] [] := by first | (simp [entryFrame, mkF, argsToLocals, Value.category]; done) | rfl
def Q20a17 (Z : State) (b2 : Addr) (cs : Int32) (wd : Addr) (kd : ClassId) (vd : List Value) (b58a : Addr) (k58b : ClassId) (h0 : Heap) (n0 : Nat) (v : Option Value) (h : Heap) (L : List Loc) : Prop := v = some (.ref b2) ∧ Fr n0 L ∧ Keep h0 h [b2, b58a] ∧ Fld Z h b2 "java/lang/AbstractStringBuilder" "value" "[B" (.ref b58a) ∧ Fld Z h b2 "java/lang/AbstractStringBuilder" "coder" "B" (.int (0 : Int32)) ∧ Fld Z h b2 "java/lang/AbstractStringBuilder" "count" "I" (.int (19 : Int32)) ∧ Arv Z h b58a k58b .byte (34 : Int32) [(.int (101 : Int32)), (.int (120 : Int32)), (.int (112 : Int32)), (.int (101 : Int32)), (.int (99 : Int32)), (.int (116 : Int32)), (.int (101 : Int32)), (.int (100 : Int32)), (.int (32 : Int32)), (.int (97 : Int32)), (.int (116 : Int32)), (.int (32 : Int32)), (.int (108 : Int32)), (.int (101 : Int32)), (.int (97 : Int32)), (.int (115 : Int32)), (.int (116 : Int32)), (.int (32 : Int32)), (.int (nar .byte (own_el vd (0 : Int32)))), (.int (0 : Int32)), (.int (0 : Int32)), (.int (0 : Int32)), (.int (0 : Int32)), (.int (0 : Int32)), (.int (0 : Int32)), (.int (0 : Int32)), (.int (0 : Int32)), (.int (0 : Int32)), (.int (0 : Int32)), (.int (0 : Int32)), (.int (0 : Int32)), (.int (0 : Int32)), (.int (0 : Int32)), (.int (0 : Int32))] (.int (0 : Int32))
set_option maxRecDepth 65536 in
set_option maxHeartbeats 40000000 in
theorem rm20a17 (l : Launch) (Z : State) (a0 : Array Value) (hw : ∀ d ∈ tables_1, d.before a0 Z = true) (ws : List Jvm.Cond) (b2 : Addr) (cs : Int32) (wd : Addr) (kd : ClassId) (vd : List Value) (b58a : Addr) (k58b : ClassId) (h0 : Heap) (n0 : Nat) (Z0 : n0 ≤ h0.size) (PS0 : Sta Z h0 "java/lang/String" "COMPACT_STRINGS" "Z" (.int cs)) (PS1 : Sta Z h0 "java/lang/Integer" "DigitOnes" "[B" (.ref wd)) (PV2 : Arv Z h0 wd kd .byte (100 : Int32) vd (.int (0 : Int32))) (PE7 : Exa Z h0 b2 "java/lang/StringBuilder") (PF8 : Fld Z h0 b2 "java/lang/AbstractStringBuilder" "value" "[B" (.ref b58a)) (PF9 : Fld Z h0 b2 "java/lang/AbstractStringBuilder" "coder" "B" (.int (0 : Int32))) (PF10 : Fld Z h0 b2 "java/lang/AbstractStringBuilder" "count" "I" (.int (18 : Int32))) (PV16 : Arv Z h0 b58a k58b .byte (34 : Int32) own_ls4 (.int (0 : Int32))) (PP0 : ¬ (cs = (0 : Int32))) (hi_vd : own_Ints vd) (ne_b2_b58a : b2 ≠ b58a) (ne_b58a_b2 : b58a ≠ b2) (n_b2 : n0 ≤ b2) (n_b58a : n0 ≤ b58a) :
    MetFree l mn21 (head1 (Jvm.Cond.code mn21 jdk_67_method_15_code 2 (some (.object "java/lang/StringBuilder")) :: ws) ({ frames := 2, cells := 0, slots := 0, locals := 33 } : Room)) (fun a U => a = #[(.ref b2), (.int (0 : Int32))] ∧ Z.Warmed39 U.vm ∧ U.heap = h0) (fun _ _ _ _ _ => True) (fun _ U o U' => ∃ v L, o = .returned v ∧ Q20a17 Z b2 cs wd kd vd b58a k58b h0 n0 v U'.heap L ∧ FrameEnd U o U' L ({ frames := 2, cells := 0, slots := 0, locals := 33 } : Room).cells ({ frames := 2, cells := 0, slots := 0, locals := 33 } : Room).slots) := by
  refine MetFree.of_bodySF (plainFor_of_name pn_8) hisR ?_
  intro p e s m args below meth c s₁ Bd hml0 hP hK
  obtain ⟨rfl, hZ, hh⟩ := hP
  have hx := Bd.exec
  have hby := Bd.bytes
  have hml : c.maxLocals = 2 := hml0
  have hown : s.vm.findClass "java/lang/StringBuilder" = some m.cls := findClass_of_methodNamed Bd.named
  have hnm := (name_of_methodNamed Bd.named Bd.method).1
  have X0 : Stand p l e ({ frames := 2, cells := 0, slots := 0, locals := 33 } : Room) s m #[(.ref b2), (.int (0 : Int32))] below meth c s₁ [] 0 0 := Stand.of_body Bd
  have e0 : s₁.heap = h0 := by rw [← hh, Bd.state]; rfl
  have N0 := Fr.nil n0
  show own_Ends p e below s (Q20a17 Z b2 cs wd kd vd b58a k58b h0 n0) _ _ s₁ _
  rw [ef_rm20a17 m b2]
  refine own_go (T' := s₁) (f' := (mkF m 2 #[.val (.ref b2), .val (.int (0 : Int32))] [(.int (0 : Int32)), (.ref b2)])) (fun _ k => XS.aloadN X0.here hx rfl (hb hby d20_0) rfl rfl (XS.iloadN X0.here hx rfl (hb hby d20_1) rfl k)) ?_
  obtain ⟨_, _, ⟨T74, L74, k74, n74⟩, -, X74, ⟨Lc74, hQ74, l74, y74, z74⟩, st74⟩ := superBack X0 hx hZ (y := mn20) hown (ow128 hw) (own_same (y := mn20) (y2 := mn11) (ow78 hw) rfl (ow129 hw) (by decide)) (ow129 hw) (ow57 hw) (by decide) (backOf (W := 0) (rm21a18 l Z a0 hw [] b2 cs wd kd vd b58a k58b h0 n0 Z0 PS0 PS1 PV2 PE7 PF8 PF9 PF10 PV16 PP0 hi_vd ne_b2_b58a ne_b58a_b2 n_b2 n_b58a) hZ (ow131 hw) (ow41 hw) (by decide) (by decide)) e0 (Ins.self PE7) (g := (mkF m 2 #[.val (.ref b2), .val (.int (0 : Int32))] [(.int (0 : Int32)), (.ref b2)])) rfl (by rw [hml]; rfl) (ow131 hw) (argsL := [(.int (0 : Int32))]) (rest := []) (lenOf pd10 rfl) rfl (by show 2 * 0 + _ ≤ _; exact Nat.le_of_eq rfl) (hb hby d20_2) (fun _ _ => ⟨rfl, e0, (by decide : 0 + 0 ≤ _), (by decide : 0 + 0 ≤ _)⟩)
  dsimp only [Pt.U, Pt.locs, Pt.cells, Pt.slots] at X74 l74 y74 z74 st74 hQ74
  subst l74 y74 z74
  obtain ⟨rfl, N74q, K74, g74_0, g74_1, g74_2, g74_3⟩ := hQ74
  have N74 := Fr.app N0 N74q
  have eK74 : T74.heap = T74.heap := rfl
  have KK74 : Keep h0 T74.heap [b2, b58a] := Keep.trans (Keep.refl h0 [b2, b58a]) K74 (allS (Or.inl (List.mem_of_getElem? (i := 1) rfl)) (allS (Or.inl (List.mem_of_getElem? (i := 0) rfl)) all0))
  refine own_go (T' := T74) (f' := (mkF m 7 #[.val (.ref b2), .val (.int (0 : Int32))] [(.ref b2)])) (fun _ k => st74.trans (XS.pop X74.here hx rfl (hb hby d20_5) rfl rfl (XS.aloadN X74.here hx rfl (hb hby d20_6) rfl rfl k))) ?_
  refine own_ret X74 (v := some (.ref b2)) (fun h => by rw [Bd.returns] at h; cases h) Bd.notSynchronized (fun fs hr => own_retA X74 hx Bd.returns rfl rfl (hb hby d20_7) hr) ?_ (by decide) (by decide)
  show Q20a17 Z b2 cs wd kd vd b58a k58b h0 n0 _ T74.heap _
  rw [eK74]
  exact ⟨rfl, N74, KK74, g74_1, g74_2, g74_3, g74_0⟩
theorem pd11 : parseMethodDescriptor "(I)Ljava/lang/StringBuilder;" = some ⟨[.int], some (.object "java/lang/StringBuilder")⟩ := by decide +kernel
theorem d28_0 : decode jdk_68_method_64_code 0 = .ok (.aload_n 0, 1) := by decide +kernel
theorem d28_1 : decode jdk_68_method_64_code 1 = .ok (.getfield 15, 3) := by decide +kernel
theorem d28_4 : decode jdk_68_method_64_code 4 = .ok (.areturn, 1) := by decide +kernel
theorem ef_rm28a26 (m : MethodId) (b2 : Addr) : entryFrame m #[(.ref b2)] 1 = mkF m 0 #[.val (.ref b2)] [] := by first | (simp [entryFrame, mkF, argsToLocals, Value.category]; done) | rfl
def Q28a26 (Z : State) (b2 : Addr) (b58a : Addr) (h0 : Heap) (n0 : Nat) (v : Option Value) (h : Heap) (L : List Loc) : Prop := v = some (.ref b58a) ∧ Fr n0 L ∧ h = h0
set_option maxRecDepth 65536 in
set_option maxHeartbeats 40000000 in
theorem rm28a26 (l : Launch) (Z : State) (a0 : Array Value) (hw : ∀ d ∈ tables_1, d.before a0 Z = true) (ws : List Jvm.Cond) (b2 : Addr) (b58a : Addr) (h0 : Heap) (n0 : Nat) (Z0 : n0 ≤ h0.size) (PF8 : Fld Z h0 b2 "java/lang/AbstractStringBuilder" "value" "[B" (.ref b58a)) :
    MetFree l mn22 (head1 (Jvm.Cond.code mn22 jdk_68_method_64_code 1 (some (.array .byte)) :: ws) ({ frames := 0, cells := 0, slots := 0, locals := 0 } : Room)) (fun a U => a = #[(.ref b2)] ∧ Z.Warmed39 U.vm ∧ U.heap = h0) (fun _ _ _ _ _ => True) (fun _ U o U' => ∃ v L, o = .returned v ∧ Q28a26 Z b2 b58a h0 n0 v U'.heap L ∧ FrameEnd U o U' L ({ frames := 0, cells := 0, slots := 0, locals := 0 } : Room).cells ({ frames := 0, cells := 0, slots := 0, locals := 0 } : Room).slots) := by
  refine MetFree.of_bodySF (plainFor_of_name pn_3) hisR ?_
  intro p e s m args below meth c s₁ Bd hml0 hP hK
  obtain ⟨rfl, hZ, hh⟩ := hP
  have hx := Bd.exec
  have hby := Bd.bytes
  have hml : c.maxLocals = 1 := hml0
  have hown : s.vm.findClass "java/lang/AbstractStringBuilder" = some m.cls := findClass_of_methodNamed Bd.named
  have hnm := (name_of_methodNamed Bd.named Bd.method).1
  have X0 : Stand p l e ({ frames := 0, cells := 0, slots := 0, locals := 0 } : Room) s m #[(.ref b2)] below meth c s₁ [] 0 0 := Stand.of_body Bd
  have e0 : s₁.heap = h0 := by rw [← hh, Bd.state]; rfl
  have N0 := Fr.nil n0
  show own_Ends p e below s (Q28a26 Z b2 b58a h0 n0) _ _ s₁ _
  rw [ef_rm28a26 m b2]
  refine own_go (T' := s₁) (f' := (mkF m 1 #[.val (.ref b2)] [(.ref b2)])) (fun _ k => XS.aloadN X0.here hx rfl (hb hby d28_0) rfl rfl k) ?_
  obtain ⟨T82, X82, e82, st82⟩ := getF X0 hx hZ hown (host := "") (Or.inl (ow45 hw)) Via.refl e0 PF8 (g := (mkF m 1 #[.val (.ref b2)] [(.ref b2)])) rfl rfl (hb hby d28_1)
  refine own_go (T' := T82) (f' := (mkF m 4 #[.val (.ref b2)] [(.ref b58a)])) (fun _ k => st82 _ k) ?_
  refine own_ret X82 (v := some (.ref b58a)) (fun h => by rw [Bd.returns] at h; cases h) Bd.notSynchronized (fun fs hr => own_retA X82 hx Bd.returns rfl rfl (hb hby d28_4) hr) ?_ (by decide) (by decide)
  show Q28a26 Z b2 b58a h0 n0 _ T82.heap _
  exact ⟨rfl, N0, e82⟩
theorem pd7 : parseMethodDescriptor "()[B" = some ⟨[], some (.array .byte)⟩ := by decide +kernel
theorem d30_0 : decode jdk_68_method_6_code 0 = .ok (.aload_n 0, 1) := by decide +kernel
theorem d30_1 : decode jdk_68_method_6_code 1 = .ok (.getfield 79, 3) := by decide +kernel
theorem d30_4 : decode jdk_68_method_6_code 4 = .ok (.ireturn, 1) := by decide +kernel
theorem ef_rm30a28 (m : MethodId) (b2 : Addr) : entryFrame m #[(.ref b2)] 1 = mkF m 0 #[.val (.ref b2)] [] := by first | (simp [entryFrame, mkF, argsToLocals, Value.category]; done) | rfl
def Q30a28 (Z : State) (b2 : Addr) (h0 : Heap) (n0 : Nat) (v : Option Value) (h : Heap) (L : List Loc) : Prop := v = some (.int (19 : Int32)) ∧ Fr n0 L ∧ h = h0
set_option maxRecDepth 65536 in
set_option maxHeartbeats 40000000 in
theorem rm30a28 (l : Launch) (Z : State) (a0 : Array Value) (hw : ∀ d ∈ tables_1, d.before a0 Z = true) (ws : List Jvm.Cond) (b2 : Addr) (h0 : Heap) (n0 : Nat) (Z0 : n0 ≤ h0.size) (PF10 : Fld Z h0 b2 "java/lang/AbstractStringBuilder" "count" "I" (.int (19 : Int32))) :
    MetFree l mn23 (head1 (Jvm.Cond.code mn23 jdk_68_method_6_code 1 (some .int) :: ws) ({ frames := 0, cells := 0, slots := 0, locals := 0 } : Room)) (fun a U => a = #[(.ref b2)] ∧ Z.Warmed39 U.vm ∧ U.heap = h0) (fun _ _ _ _ _ => True) (fun _ U o U' => ∃ v L, o = .returned v ∧ Q30a28 Z b2 h0 n0 v U'.heap L ∧ FrameEnd U o U' L ({ frames := 0, cells := 0, slots := 0, locals := 0 } : Room).cells ({ frames := 0, cells := 0, slots := 0, locals := 0 } : Room).slots) := by
  refine MetFree.of_bodySF (plainFor_of_name pn_3) hisR ?_
  intro p e s m args below meth c s₁ Bd hml0 hP hK
  obtain ⟨rfl, hZ, hh⟩ := hP
  have hx := Bd.exec
  have hby := Bd.bytes
  have hml : c.maxLocals = 1 := hml0
  have hown : s.vm.findClass "java/lang/AbstractStringBuilder" = some m.cls := findClass_of_methodNamed Bd.named
  have hnm := (name_of_methodNamed Bd.named Bd.method).1
  have X0 : Stand p l e ({ frames := 0, cells := 0, slots := 0, locals := 0 } : Room) s m #[(.ref b2)] below meth c s₁ [] 0 0 := Stand.of_body Bd
  have e0 : s₁.heap = h0 := by rw [← hh, Bd.state]; rfl
  have N0 := Fr.nil n0
  show own_Ends p e below s (Q30a28 Z b2 h0 n0) _ _ s₁ _
  rw [ef_rm30a28 m b2]
  refine own_go (T' := s₁) (f' := (mkF m 1 #[.val (.ref b2)] [(.ref b2)])) (fun _ k => XS.aloadN X0.here hx rfl (hb hby d30_0) rfl rfl k) ?_
  obtain ⟨T84, X84, e84, st84⟩ := getF X0 hx hZ hown (host := "") (Or.inl (ow73 hw)) Via.refl e0 PF10 (g := (mkF m 1 #[.val (.ref b2)] [(.ref b2)])) rfl rfl (hb hby d30_1)
  refine own_go (T' := T84) (f' := (mkF m 4 #[.val (.ref b2)] [(.int (19 : Int32))])) (fun _ k => st84 _ k) ?_
  refine own_ret X84 (v := some (.int (19 : Int32))) (fun h => by rw [Bd.returns] at h; cases h) Bd.notSynchronized (fun fs hr => retI X84 hx Bd.returns (hb hby d30_4) hr) ?_ (by decide) (by decide)
  show Q30a28 Z b2 h0 n0 _ T84.heap _
  exact ⟨rfl, N0, e84⟩
theorem d29_0 : decode jdk_67_method_93_code 0 = .ok (.aload_n 0, 1) := by decide +kernel
theorem d29_1 : decode jdk_67_method_93_code 1 = .ok (.invokespecial 343, 3) := by decide +kernel
theorem d29_4 : decode jdk_67_method_93_code 4 = .ok (.ireturn, 1) := by decide +kernel
theorem ef_rm29a27 (m : MethodId) (b2 : Addr) : entryFrame m #[(.ref b2)] 1 = mkF m 0 #[.val (.ref b2)] [] := by first | (simp [entryFrame, mkF, argsToLocals, Value.category]; done) | rfl
def Q29a27 (Z : State) (b2 : Addr) (h0 : Heap) (n0 : Nat) (v : Option Value) (h : Heap) (L : List Loc) : Prop := v = some (.int (19 : Int32)) ∧ Fr n0 L ∧ h = h0
set_option maxRecDepth 65536 in
set_option maxHeartbeats 40000000 in
theorem rm29a27 (l : Launch) (Z : State) (a0 : Array Value) (hw : ∀ d ∈ tables_1, d.before a0 Z = true) (ws : List Jvm.Cond) (b2 : Addr) (h0 : Heap) (n0 : Nat) (Z0 : n0 ≤ h0.size) (PE7 : Exa Z h0 b2 "java/lang/StringBuilder") (PF10 : Fld Z h0 b2 "java/lang/AbstractStringBuilder" "count" "I" (.int (19 : Int32))) :
    MetFree l mn24 (head1 (Jvm.Cond.code mn24 jdk_67_method_93_code 1 (some .int) :: ws) ({ frames := 1, cells := 0, slots := 0, locals := 12 } : Room)) (fun a U => a = #[(.ref b2)] ∧ Z.Warmed39 U.vm ∧ U.heap = h0) (fun _ _ _ _ _ => True) (fun _ U o U' => ∃ v L, o = .returned v ∧ Q29a27 Z b2 h0 n0 v U'.heap L ∧ FrameEnd U o U' L ({ frames := 1, cells := 0, slots := 0, locals := 12 } : Room).cells ({ frames := 1, cells := 0, slots := 0, locals := 12 } : Room).slots) := by
  refine MetFree.of_bodySF (plainFor_of_name pn_8) hisR ?_
  intro p e s m args below meth c s₁ Bd hml0 hP hK
  obtain ⟨rfl, hZ, hh⟩ := hP
  have hx := Bd.exec
  have hby := Bd.bytes
  have hml : c.maxLocals = 1 := hml0
  have hown : s.vm.findClass "java/lang/StringBuilder" = some m.cls := findClass_of_methodNamed Bd.named
  have hnm := (name_of_methodNamed Bd.named Bd.method).1
  have X0 : Stand p l e ({ frames := 1, cells := 0, slots := 0, locals := 12 } : Room) s m #[(.ref b2)] below meth c s₁ [] 0 0 := Stand.of_body Bd
  have e0 : s₁.heap = h0 := by rw [← hh, Bd.state]; rfl
  have N0 := Fr.nil n0
  show own_Ends p e below s (Q29a27 Z b2 h0 n0) _ _ s₁ _
  rw [ef_rm29a27 m b2]
  refine own_go (T' := s₁) (f' := (mkF m 1 #[.val (.ref b2)] [(.ref b2)])) (fun _ k => XS.aloadN X0.here hx rfl (hb hby d29_0) rfl rfl k) ?_
  obtain ⟨_, _, ⟨T85, L85, k85, n85⟩, -, X85, ⟨Lc85, hQ85, l85, y85, z85⟩, st85⟩ := superBack X0 hx hZ (y := mn23) hown (ow170 hw) (own_same (y := mn23) (y2 := mn11) (ow78 hw) rfl (ow166 hw) (by decide)) (ow166 hw) (ow57 hw) (by decide) (backOf (W := 0) (rm30a28 l Z a0 hw [] b2 h0 n0 Z0 PF10) hZ (ow171 hw) (ow41 hw) (by decide) (by decide)) e0 (Ins.self PE7) (g := (mkF m 1 #[.val (.ref b2)] [(.ref b2)])) rfl (by rw [hml]; rfl) (ow171 hw) (argsL := []) (rest := []) (lenOf pd1 rfl) rfl (by show 2 * 0 + _ ≤ _; exact Nat.le_of_eq rfl) (hb hby d29_1) (fun _ _ => ⟨rfl, e0, (by decide : 0 + 0 ≤ _), (by decide : 0 + 0 ≤ _)⟩)
  dsimp only [Pt.U, Pt.locs, Pt.cells, Pt.slots] at X85 l85 y85 z85 st85 hQ85
  subst l85 y85 z85
  obtain ⟨rfl, N85q, hh85⟩ := hQ85
  have N85 := Fr.app N0 N85q
  refine own_go (T' := T85) (f' := (mkF m 4 #[.val (.ref b2)] [(.int (19 : Int32))])) (fun _ k => st85.trans k) ?_
  refine own_ret X85 (v := some (.int (19 : Int32))) (fun h => by rw [Bd.returns] at h; cases h) Bd.notSynchronized (fun fs hr => retI X85 hx Bd.returns (hb hby d29_4) hr) ?_ (by decide) (by decide)
  show Q29a27 Z b2 h0 n0 _ T85.heap _
  exact ⟨rfl, N85, hh85⟩
theorem d33_0 : decode jdk_65_method_131_code 0 = .ok (.iload_n 1, 1) := by decide +kernel
theorem d33_1 : decode jdk_65_method_131_code 1 = .ok (.iload_n 0, 1) := by decide +kernel
theorem d33_2 : decode jdk_65_method_131_code 2 = .ok (.if_icmp .ge 35, 3) := by decide +kernel
theorem d33_37 : decode jdk_65_method_131_code 37 = .ok (.return_, 1) := by decide +kernel
theorem ef_rm33a31 (m : MethodId)  : entryFrame m #[(.int (0 : Int32)), (.int (19 : Int32))] 2 = mkF m 0 #[.val (.int (0 : Int32)), .val (.int (19 : Int32))] [] := by first | (simp [entryFrame, mkF, argsToLocals, Value.category]; done) | rfl
def Q33a31 (Z : State)  (h0 : Heap) (n0 : Nat) (v : Option Value) (h : Heap) (L : List Loc) : Prop := v = none ∧ Fr n0 L ∧ h = h0
set_option maxRecDepth 65536 in
set_option maxHeartbeats 40000000 in
theorem rm33a31 (l : Launch) (Z : State) (a0 : Array Value) (hw : ∀ d ∈ tables_1, d.before a0 Z = true) (ws : List Jvm.Cond)  (h0 : Heap) (n0 : Nat) (Z0 : n0 ≤ h0.size) :
    MetFree l mn25 (head1 (Jvm.Cond.code mn25 jdk_65_method_131_code 2 none :: ws) ({ frames := 0, cells := 0, slots := 0, locals := 0 } : Room)) (fun a U => a = #[(.int (0 : Int32)), (.int (19 : Int32))] ∧ Z.Warmed39 U.vm ∧ U.heap = h0) (fun _ _ _ _ _ => True) (fun _ U o U' => ∃ v L, o = .returned v ∧ Q33a31 Z  h0 n0 v U'.heap L ∧ FrameEnd U o U' L ({ frames := 0, cells := 0, slots := 0, locals := 0 } : Room).cells ({ frames := 0, cells := 0, slots := 0, locals := 0 } : Room).slots) := by
  refine MetFree.of_bodySF (plainFor_of_name pn_9) hisR ?_
  intro p e s m args below meth c s₁ Bd hml0 hP hK
  obtain ⟨rfl, hZ, hh⟩ := hP
  have hx := Bd.exec
  have hby := Bd.bytes
  have hml : c.maxLocals = 2 := hml0
  have hown : s.vm.findClass "java/util/Arrays" = some m.cls := findClass_of_methodNamed Bd.named
  have hnm := (name_of_methodNamed Bd.named Bd.method).1
  have X0 : Stand p l e ({ frames := 0, cells := 0, slots := 0, locals := 0 } : Room) s m #[(.int (0 : Int32)), (.int (19 : Int32))] below meth c s₁ [] 0 0 := Stand.of_body Bd
  have e0 : s₁.heap = h0 := by rw [← hh, Bd.state]; rfl
  have N0 := Fr.nil n0
  show own_Ends p e below s (Q33a31 Z  h0 n0) _ _ s₁ _
  rw [ef_rm33a31 m ]
  refine own_go (T' := s₁) (f' := (mkF m 37 #[.val (.int (0 : Int32)), .val (.int (19 : Int32))] [])) (fun _ k => XS.iloadN X0.here hx rfl (hb hby d33_0) rfl (XS.iloadN X0.here hx rfl (hb hby d33_1) rfl (XS.icmpYes X0.here hx rfl (pc0 := 2) (pc' := 37) rfl (hb hby d33_2) rfl (flt (by decide : ¬ ((19 : Int32) < (0 : Int32)))).2.1 (by decide) (by decide) k))) ?_
  refine own_ret X0 (v := none) (fun _ => rfl) Bd.notSynchronized (fun fs hr => X0.returnOut hx Bd.returns (hb hby d33_37) hr) ?_ (by decide) (by decide)
  show Q33a31 Z  h0 n0 _ s₁.heap _
  exact ⟨rfl, N0, e0⟩
theorem pd14 : parseMethodDescriptor "(II)V" = some ⟨[.int, .int], none⟩ := by decide +kernel
theorem d16_9 : decode jdk_29_method_69_code 9 = .ok (.iload_n 1, 1) := by decide +kernel
theorem ef_rm16a32 (m : MethodId)  : entryFrame m #[(.int (34 : Int32)), (.int (19 : Int32))] 2 = mkF m 0 #[.val (.int (34 : Int32)), .val (.int (19 : Int32))] [] := by first | (simp [entryFrame, mkF, argsToLocals, Value.category]; done) | rfl
def Q16a32 (Z : State)  (h0 : Heap) (n0 : Nat) (v : Option Value) (h : Heap) (L : List Loc) : Prop := v = some (.int (19 : Int32)) ∧ Fr n0 L ∧ h = h0
set_option maxRecDepth 65536 in
set_option maxHeartbeats 40000000 in
theorem rm16a32 (l : Launch) (Z : State) (a0 : Array Value) (hw : ∀ d ∈ tables_1, d.before a0 Z = true) (ws : List Jvm.Cond)  (h0 : Heap) (n0 : Nat) (Z0 : n0 ≤ h0.size) :
    MetFree l mn9 (head1 (Jvm.Cond.code mn9 jdk_29_method_69_code 2 (some .int) :: ws) ({ frames := 0, cells := 0, slots := 0, locals := 0 } : Room)) (fun a U => a = #[(.int (34 : Int32)), (.int (19 : Int32))] ∧ Z.Warmed39 U.vm ∧ U.heap = h0) (fun _ _ _ _ _ => True) (fun _ U o U' => ∃ v L, o = .returned v ∧ Q16a32 Z  h0 n0 v U'.heap L ∧ FrameEnd U o U' L ({ frames := 0, cells := 0, slots := 0, locals := 0 } : Room).cells ({ frames := 0, cells := 0, slots := 0, locals := 0 } : Room).slots) := by
  refine MetFree.of_bodySF (Jvm.Free.JP.mathPlain rfl (by decide +kernel)) hisR ?_
  intro p e s m args below meth c s₁ Bd hml0 hP hK
  obtain ⟨rfl, hZ, hh⟩ := hP
  have hx := Bd.exec
  have hby := Bd.bytes
  have hml : c.maxLocals = 2 := hml0
  have hown : s.vm.findClass "java/lang/Math" = some m.cls := findClass_of_methodNamed Bd.named
  have hnm := (name_of_methodNamed Bd.named Bd.method).1
  have X0 : Stand p l e ({ frames := 0, cells := 0, slots := 0, locals := 0 } : Room) s m #[(.int (34 : Int32)), (.int (19 : Int32))] below meth c s₁ [] 0 0 := Stand.of_body Bd
  have e0 : s₁.heap = h0 := by rw [← hh, Bd.state]; rfl
  have N0 := Fr.nil n0
  show own_Ends p e below s (Q16a32 Z  h0 n0) _ _ s₁ _
  rw [ef_rm16a32 m ]
  refine own_go (T' := s₁) (f' := (mkF m 10 #[.val (.int (34 : Int32)), .val (.int (19 : Int32))] [(.int (19 : Int32))])) (fun _ k => XS.iloadN X0.here hx rfl (hb hby d16_0) rfl (XS.iloadN X0.here hx rfl (hb hby d16_1) rfl (XS.icmpYes X0.here hx rfl (pc0 := 2) (pc' := 9) rfl (hb hby d16_2) rfl (tlt (by decide : ((19 : Int32) < (34 : Int32)))).2.2.1 (by decide) (by decide) (XS.iloadN X0.here hx rfl (hb hby d16_9) rfl k)))) ?_
  refine own_ret X0 (v := some (.int (19 : Int32))) (fun h => by rw [Bd.returns] at h; cases h) Bd.notSynchronized (fun fs hr => retI X0 hx Bd.returns (hb hby d16_10) hr) ?_ (by decide) (by decide)
  show Q16a32 Z  h0 n0 _ s₁.heap _
  exact ⟨rfl, N0, e0⟩
theorem d32_0 : decode jdk_65_method_133_code 0 = .ok (.iload_n 1, 1) := by decide +kernel
theorem d32_1 : decode jdk_65_method_133_code 1 = .ok (.iload_n 2, 1) := by decide +kernel
theorem d32_2 : decode jdk_65_method_133_code 2 = .ok (.invokestatic 343, 3) := by decide +kernel
theorem d32_5 : decode jdk_65_method_133_code 5 = .ok (.iload_n 2, 1) := by decide +kernel
theorem d32_6 : decode jdk_65_method_133_code 6 = .ok (.iload_n 1, 1) := by decide +kernel
theorem d32_7 : decode jdk_65_method_133_code 7 = .ok (.isub, 1) := by decide +kernel
theorem d32_8 : decode jdk_65_method_133_code 8 = .ok (.istore_n 3, 1) := by decide +kernel
theorem d32_9 : decode jdk_65_method_133_code 9 = .ok (.iload_n 3, 1) := by decide +kernel
theorem d32_10 : decode jdk_65_method_133_code 10 = .ok (.newarray .byte, 2) := by decide +kernel
theorem d32_12 : decode jdk_65_method_133_code 12 = .ok (.astore 4, 2) := by decide +kernel
theorem d32_14 : decode jdk_65_method_133_code 14 = .ok (.aload_n 0, 1) := by decide +kernel
theorem d32_15 : decode jdk_65_method_133_code 15 = .ok (.iload_n 1, 1) := by decide +kernel
theorem d32_16 : decode jdk_65_method_133_code 16 = .ok (.aload 4, 2) := by decide +kernel
theorem d32_18 : decode jdk_65_method_133_code 18 = .ok (.iconst 0, 1) := by decide +kernel
theorem d32_19 : decode jdk_65_method_133_code 19 = .ok (.aload_n 0, 1) := by decide +kernel
theorem d32_20 : decode jdk_65_method_133_code 20 = .ok (.arraylength, 1) := by decide +kernel
theorem d32_21 : decode jdk_65_method_133_code 21 = .ok (.iload_n 1, 1) := by decide +kernel
theorem d32_22 : decode jdk_65_method_133_code 22 = .ok (.isub, 1) := by decide +kernel
theorem d32_23 : decode jdk_65_method_133_code 23 = .ok (.iload_n 3, 1) := by decide +kernel
theorem d32_24 : decode jdk_65_method_133_code 24 = .ok (.invokestatic 304, 3) := by decide +kernel
theorem d32_27 : decode jdk_65_method_133_code 27 = .ok (.invokestatic 150, 3) := by decide +kernel
theorem d32_30 : decode jdk_65_method_133_code 30 = .ok (.aload 4, 2) := by decide +kernel
theorem d32_32 : decode jdk_65_method_133_code 32 = .ok (.areturn, 1) := by decide +kernel
theorem ef_rm32a30 (m : MethodId) (b58a : Addr) : entryFrame m #[(.ref b58a), (.int (0 : Int32)), (.int (19 : Int32))] 5 = mkF m 0 #[.val (.ref b58a), .val (.int (0 : Int32)), .val (.int (19 : Int32)), .unset, .unset] [] := by first | (simp [entryFrame, mkF, argsToLocals, Value.category]; done) | rfl
def Q32a30 (Z : State) (b58a : Addr) (k58b : ClassId) (i79 : Int32) (h0 : Heap) (n0 : Nat) (v : Option Value) (h : Heap) (L : List Loc) : Prop := ∃ (b90 : Addr) (k90 : ClassId), v = some (.ref b90) ∧ Fr n0 L ∧ Keep h0 h [] ∧ n0 ≤ b90 ∧ h0.size ≤ b90 ∧ Arv Z h b90 k90 .byte (19 : Int32) [(.int (101 : Int32)), (.int (120 : Int32)), (.int (112 : Int32)), (.int (101 : Int32)), (.int (99 : Int32)), (.int (116 : Int32)), (.int (101 : Int32)), (.int (100 : Int32)), (.int (32 : Int32)), (.int (97 : Int32)), (.int (116 : Int32)), (.int (32 : Int32)), (.int (108 : Int32)), (.int (101 : Int32)), (.int (97 : Int32)), (.int (115 : Int32)), (.int (116 : Int32)), (.int (32 : Int32)), (.int i79)] (.int (0 : Int32))
set_option maxRecDepth 65536 in
set_option maxHeartbeats 40000000 in
theorem rm32a30 (l : Launch) (Z : State) (a0 : Array Value) (hw : ∀ d ∈ tables_1, d.before a0 Z = true) (ws : List Jvm.Cond) (b58a : Addr) (k58b : ClassId) (i79 : Int32) (h0 : Heap) (n0 : Nat) (Z0 : n0 ≤ h0.size) (PV16 : Arv Z h0 b58a k58b .byte (34 : Int32) [(.int (101 : Int32)), (.int (120 : Int32)), (.int (112 : Int32)), (.int (101 : Int32)), (.int (99 : Int32)), (.int (116 : Int32)), (.int (101 : Int32)), (.int (100 : Int32)), (.int (32 : Int32)), (.int (97 : Int32)), (.int (116 : Int32)), (.int (32 : Int32)), (.int (108 : Int32)), (.int (101 : Int32)), (.int (97 : Int32)), (.int (115 : Int32)), (.int (116 : Int32)), (.int (32 : Int32)), (.int i79), (.int (0 : Int32)), (.int (0 : Int32)), (.int (0 : Int32)), (.int (0 : Int32)), (.int (0 : Int32)), (.int (0 : Int32)), (.int (0 : Int32)), (.int (0 : Int32)), (.int (0 : Int32)), (.int (0 : Int32)), (.int (0 : Int32)), (.int (0 : Int32)), (.int (0 : Int32)), (.int (0 : Int32)), (.int (0 : Int32))] (.int (0 : Int32))) :
    MetFree l mn26 (head1 (Jvm.Cond.code mn26 jdk_65_method_133_code 5 (some (.array .byte)) :: ws) ({ frames := 1, cells := 1, slots := 19, locals := 18 } : Room)) (fun a U => a = #[(.ref b58a), (.int (0 : Int32)), (.int (19 : Int32))] ∧ Z.Warmed39 U.vm ∧ U.heap = h0) (fun _ _ _ _ _ => True) (fun _ U o U' => ∃ v L, o = .returned v ∧ Q32a30 Z b58a k58b i79 h0 n0 v U'.heap L ∧ FrameEnd U o U' L ({ frames := 1, cells := 1, slots := 19, locals := 18 } : Room).cells ({ frames := 1, cells := 1, slots := 19, locals := 18 } : Room).slots) := by
  refine MetFree.of_bodySF (plainFor_of_name pn_9) hisR ?_
  intro p e s m args below meth c s₁ Bd hml0 hP hK
  obtain ⟨rfl, hZ, hh⟩ := hP
  have hx := Bd.exec
  have hby := Bd.bytes
  have hml : c.maxLocals = 5 := hml0
  have hown : s.vm.findClass "java/util/Arrays" = some m.cls := findClass_of_methodNamed Bd.named
  have hnm := (name_of_methodNamed Bd.named Bd.method).1
  have X0 : Stand p l e ({ frames := 1, cells := 1, slots := 19, locals := 18 } : Room) s m #[(.ref b58a), (.int (0 : Int32)), (.int (19 : Int32))] below meth c s₁ [] 0 0 := Stand.of_body Bd
  have e0 : s₁.heap = h0 := by rw [← hh, Bd.state]; rfl
  have N0 := Fr.nil n0
  show own_Ends p e below s (Q32a30 Z b58a k58b i79 h0 n0) _ _ s₁ _
  rw [ef_rm32a30 m b58a]
  refine own_go (T' := s₁) (f' := (mkF m 2 #[.val (.ref b58a), .val (.int (0 : Int32)), .val (.int (19 : Int32)), .unset, .unset] [(.int (19 : Int32)), (.int (0 : Int32))])) (fun _ k => XS.iloadN X0.here hx rfl (hb hby d32_0) rfl (XS.iloadN X0.here hx rfl (hb hby d32_1) rfl k)) ?_
  obtain ⟨_, _, ⟨T89, L89, k89, n89⟩, -, X89, ⟨Lc89, hQ89, l89, y89, z89⟩, st89⟩ := Jvm.LawKit.callS X0 hx (y := mn25) hown (mvT hZ (ow179 hw)) (mvT hZ (ow180 hw)) (mvT hZ (ow97 hw)) (mvT hZ (ow181 hw)) (by decide) (backOf (W := 0) (rm33a31 l Z a0 hw []  h0 n0 Z0 ) hZ (ow181 hw) (ow97 hw) (by decide) (by decide)) (g := (mkF m 2 #[.val (.ref b58a), .val (.int (0 : Int32)), .val (.int (19 : Int32)), .unset, .unset] [(.int (19 : Int32)), (.int (0 : Int32))])) rfl (by rw [hml]; rfl) (argsL := [(.int (0 : Int32)), (.int (19 : Int32))]) (rest := []) (lenOf pd14 rfl) rfl (by show 2 * 0 + _ ≤ _; exact Nat.le_of_eq rfl) (hb hby d32_2) (fun _ _ => ⟨rfl, e0, (by decide : 0 + 0 ≤ _), (by decide : 0 + 0 ≤ _)⟩)
  dsimp only [Pt.U, Pt.locs, Pt.cells, Pt.slots] at X89 l89 y89 z89 st89 hQ89
  subst l89 y89 z89
  obtain ⟨rfl, N89q, hh89⟩ := hQ89
  have N89 := Fr.app N0 N89q
  refine own_go (T' := T89) (f' := (mkF m 10 #[.val (.ref b58a), .val (.int (0 : Int32)), .val (.int (19 : Int32)), .val (.int (19 : Int32)), .unset] [(.int (19 : Int32))])) (fun _ k => st89 _ (XS.iloadN X89.here hx rfl (hb hby d32_5) rfl (XS.iloadN X89.here hx rfl (hb hby d32_6) rfl (XS.isub X89.here hx rfl (hb hby d32_7) rfl (XS.istoreN X89.here hx rfl (hb hby d32_8) rfl (l' := #[.val (.ref b58a), .val (.int (0 : Int32)), .val (.int (19 : Int32)), .val (.int (19 : Int32)), .unset]) rfl (XS.iloadN X89.here hx rfl (hb hby d32_9) rfl k)))))) ?_
  obtain ⟨T90, h90, k90, X90, e90, E90, A90, st90⟩ := newP (aty := .byte) X89 hx hZ (ow11 hw) hh89 (g := (mkF m 10 #[.val (.ref b58a), .val (.int (0 : Int32)), .val (.int (19 : Int32)), .val (.int (19 : Int32)), .unset] [(.int (19 : Int32))])) rfl (hb hby d32_10) rfl (by decide) (cap := 19) (by decide) (by decide) (by decide) (by decide)
  obtain ⟨b90, g_b90⟩ : ∃ z, z = h0.size := ⟨_, rfl⟩
  have sg_b90 : h0.size ≤ b90 := Nat.le_of_eq g_b90.symm
  rw [← g_b90] at A90 st90
  have n_b90 : n0 ≤ b90 := Nat.le_trans Z0 (Nat.le_of_eq g_b90.symm)
  have sz_b90 : h0.size ≤ b90 := Nat.le_trans (Keep.refl h0 []).1 (Nat.le_of_eq g_b90.symm)
  have K90 : Keep h0 h90 [] := (Keep.refl h0 []).ext E90
  have V_b90 : Arv Z h90 b90 k90 .byte (19 : Int32) own_ls5 (.int (0 : Int32)) := (Arv.new A90 (by decide)).pad (pad_rep [] (.int (0 : Int32)) 19)
  refine own_go (T' := T90) (f' := (mkF m 19 #[.val (.ref b58a), .val (.int (0 : Int32)), .val (.int (19 : Int32)), .val (.int (19 : Int32)), .val (.ref b90)] [(.int (0 : Int32)), (.ref b90), (.int (0 : Int32)), (.ref b58a)])) (fun _ k => st90 _ (XS.astore X90.here hx rfl (hb hby d32_12) rfl rfl (l' := #[.val (.ref b58a), .val (.int (0 : Int32)), .val (.int (19 : Int32)), .val (.int (19 : Int32)), .val (.ref b90)]) rfl (XS.aloadN X90.here hx rfl (hb hby d32_14) rfl rfl (XS.iloadN X90.here hx rfl (hb hby d32_15) rfl (XS.aload X90.here hx rfl (hb hby d32_16) rfl rfl (XS.iconst X90.here hx rfl (hb hby d32_18) k)))))) ?_
  refine own_go (T' := T90) (f' := (mkF m 24 #[.val (.ref b58a), .val (.int (0 : Int32)), .val (.int (19 : Int32)), .val (.int (19 : Int32)), .val (.ref b90)] [(.int (19 : Int32)), (.int (34 : Int32)), (.int (0 : Int32)), (.ref b90), (.int (0 : Int32)), (.ref b58a)])) (fun _ k => XS.aloadN X90.here hx rfl (hb hby d32_19) rfl rfl (own_alen X90 hx hZ e90 (PV16.ext E90) rfl rfl (hb hby d32_20) (XS.iloadN X90.here hx rfl (hb hby d32_21) rfl (XS.isub X90.here hx rfl (hb hby d32_22) rfl (XS.iloadN X90.here hx rfl (hb hby d32_23) rfl k))))) ?_
  obtain ⟨_, _, ⟨T91, L91, k91, n91⟩, -, X91, ⟨Lc91, hQ91, l91, y91, z91⟩, st91⟩ := Jvm.LawKit.callS X90 hx (y := mn9) hown (mvT hZ (ow99 hw)) (mvT hZ (ow100 hw)) (mvT hZ (ow91 hw)) (mvT hZ (ow101 hw)) (by decide) (backOf (W := 4) (rm16a32 l Z a0 hw []  h90 n0 (Nat.le_trans Z0 E90.1) ) hZ (ow101 hw) (ow91 hw) (by decide) (by decide)) (g := (mkF m 24 #[.val (.ref b58a), .val (.int (0 : Int32)), .val (.int (19 : Int32)), .val (.int (19 : Int32)), .val (.ref b90)] [(.int (19 : Int32)), (.int (34 : Int32)), (.int (0 : Int32)), (.ref b90), (.int (0 : Int32)), (.ref b58a)])) rfl (by rw [hml]; rfl) (argsL := [(.int (34 : Int32)), (.int (19 : Int32))]) (rest := [(.int (0 : Int32)), (.ref b90), (.int (0 : Int32)), (.ref b58a)]) (lenOf pd13 rfl) rfl (by show 2 * 0 + _ ≤ _; exact Nat.le_of_eq rfl) (hb hby d32_24) (fun _ _ => ⟨rfl, e90, (by decide : 1 + 0 ≤ _), (by decide : 19 + 0 ≤ _)⟩)
  dsimp only [Pt.U, Pt.locs, Pt.cells, Pt.slots] at X91 l91 y91 z91 st91 hQ91
  subst l91 y91 z91
  obtain ⟨rfl, N91q, hh91⟩ := hQ91
  have N91 := Fr.app N89 N91q
  refine own_go (T' := T91) (f' := (mkF m 27 #[.val (.ref b58a), .val (.int (0 : Int32)), .val (.int (19 : Int32)), .val (.int (19 : Int32)), .val (.ref b90)] [(.int (19 : Int32)), (.int (0 : Int32)), (.ref b90), (.int (0 : Int32)), (.ref b58a)])) (fun _ k => st91 _ k) ?_
  obtain ⟨T92, h92, Lq92, X92, e92, N92, K92, V92, st92⟩ := cpA X91 hx hZ hown (ow102 hw) (ow105 hw) (ow103 hw) (ow104 hw) hh91 (PV16.ext E90) V_b90 (Or.inl ⟨rfl, rfl⟩) (sp := (0 : Int32)) (dp := (0 : Int32)) (nn := (19 : Int32)) (by decide) (by decide) (by decide) (by decide) (by decide) (us := [(.int (101 : Int32)), (.int (120 : Int32)), (.int (112 : Int32)), (.int (101 : Int32)), (.int (99 : Int32)), (.int (116 : Int32)), (.int (101 : Int32)), (.int (100 : Int32)), (.int (32 : Int32)), (.int (97 : Int32)), (.int (116 : Int32)), (.int (32 : Int32)), (.int (108 : Int32)), (.int (101 : Int32)), (.int (97 : Int32)), (.int (115 : Int32)), (.int (116 : Int32)), (.int (32 : Int32)), (.int i79)]) rfl (Nat.le_of_ble_eq_true rfl) N91 n_b90 (g := (mkF m 27 #[.val (.ref b58a), .val (.int (0 : Int32)), .val (.int (19 : Int32)), .val (.int (19 : Int32)), .val (.ref b90)] [(.int (19 : Int32)), (.int (0 : Int32)), (.ref b90), (.int (0 : Int32)), (.ref b58a)])) rfl (by rw [hml]; rfl) rfl (hb hby d32_27) (by decide) (W := 0) (by show 2 * 0 + _ ≤ _; exact Nat.le_of_eq rfl) (by decide)
  have V92s : Arv Z h92 b90 k90 .byte (19 : Int32) [(.int (101 : Int32)), (.int (120 : Int32)), (.int (112 : Int32)), (.int (101 : Int32)), (.int (99 : Int32)), (.int (116 : Int32)), (.int (101 : Int32)), (.int (100 : Int32)), (.int (32 : Int32)), (.int (97 : Int32)), (.int (116 : Int32)), (.int (32 : Int32)), (.int (108 : Int32)), (.int (101 : Int32)), (.int (97 : Int32)), (.int (115 : Int32)), (.int (116 : Int32)), (.int (32 : Int32)), (.int i79)] (.int (0 : Int32)) := V92
  have KK92 : Keep h0 h92 [] := Keep.trans K90 K92 (allS (Or.inr sz_b90) all0)
  refine own_go (T' := T92) (f' := (mkF m 32 #[.val (.ref b58a), .val (.int (0 : Int32)), .val (.int (19 : Int32)), .val (.int (19 : Int32)), .val (.ref b90)] [(.ref b90)])) (fun _ k => st92 _ (XS.aload X92.here hx rfl (hb hby d32_30) rfl rfl k)) ?_
  refine own_ret X92 (v := some (.ref b90)) (fun h => by rw [Bd.returns] at h; cases h) Bd.notSynchronized (fun fs hr => own_retA X92 hx Bd.returns rfl rfl (hb hby d32_32) hr) ?_ (by decide) (by decide)
  show Q32a30 Z b58a k58b i79 h0 n0 _ T92.heap _
  rw [e92]
  exact ⟨b90, k90, rfl, N92, KK92, n_b90, sz_b90, V92s⟩
theorem pd27 : parseMethodDescriptor "([BII)[B" = some ⟨[(.array .byte), .int, .int], some (.array .byte)⟩ := by decide +kernel
theorem d31_0 : decode jdk_65_method_132_code 0 = .ok (.iload_n 1, 1) := by decide +kernel
theorem d31_1 : decode jdk_65_method_132_code 1 = .ok (.ifCond .ne 9, 3) := by decide +kernel
theorem d31_4 : decode jdk_65_method_132_code 4 = .ok (.iload_n 2, 1) := by decide +kernel
theorem d31_5 : decode jdk_65_method_132_code 5 = .ok (.aload_n 0, 1) := by decide +kernel
theorem d31_6 : decode jdk_65_method_132_code 6 = .ok (.arraylength, 1) := by decide +kernel
theorem d31_7 : decode jdk_65_method_132_code 7 = .ok (.if_icmp .eq 10, 3) := by decide +kernel
theorem d31_10 : decode jdk_65_method_132_code 10 = .ok (.aload_n 0, 1) := by decide +kernel
theorem d31_11 : decode jdk_65_method_132_code 11 = .ok (.iload_n 1, 1) := by decide +kernel
theorem d31_12 : decode jdk_65_method_132_code 12 = .ok (.iload_n 2, 1) := by decide +kernel
theorem d31_13 : decode jdk_65_method_132_code 13 = .ok (.invokestatic 339, 3) := by decide +kernel
theorem d31_16 : decode jdk_65_method_132_code 16 = .ok (.areturn, 1) := by decide +kernel
theorem ef_rm31a29 (m : MethodId) (b58a : Addr) : entryFrame m #[(.ref b58a), (.int (0 : Int32)), (.int (19 : Int32))] 3 = mkF m 0 #[.val (.ref b58a), .val (.int (0 : Int32)), .val (.int (19 : Int32))] [] := by first | (simp [entryFrame, mkF, argsToLocals, Value.category]; done) | rfl
def Q31a29 (Z : State) (b58a : Addr) (k58b : ClassId) (i79 : Int32) (h0 : Heap) (n0 : Nat) (v : Option Value) (h : Heap) (L : List Loc) : Prop := ∃ (b93a : Addr) (k93b : ClassId), v = some (.ref b93a) ∧ Fr n0 L ∧ Keep h0 h [] ∧ n0 ≤ b93a ∧ h0.size ≤ b93a ∧ Arv Z h b93a k93b .byte (19 : Int32) [(.int (101 : Int32)), (.int (120 : Int32)), (.int (112 : Int32)), (.int (101 : Int32)), (.int (99 : Int32)), (.int (116 : Int32)), (.int (101 : Int32)), (.int (100 : Int32)), (.int (32 : Int32)), (.int (97 : Int32)), (.int (116 : Int32)), (.int (32 : Int32)), (.int (108 : Int32)), (.int (101 : Int32)), (.int (97 : Int32)), (.int (115 : Int32)), (.int (116 : Int32)), (.int (32 : Int32)), (.int i79)] (.int (0 : Int32))
set_option maxRecDepth 65536 in
set_option maxHeartbeats 40000000 in
theorem rm31a29 (l : Launch) (Z : State) (a0 : Array Value) (hw : ∀ d ∈ tables_1, d.before a0 Z = true) (ws : List Jvm.Cond) (b58a : Addr) (k58b : ClassId) (i79 : Int32) (h0 : Heap) (n0 : Nat) (Z0 : n0 ≤ h0.size) (PV16 : Arv Z h0 b58a k58b .byte (34 : Int32) [(.int (101 : Int32)), (.int (120 : Int32)), (.int (112 : Int32)), (.int (101 : Int32)), (.int (99 : Int32)), (.int (116 : Int32)), (.int (101 : Int32)), (.int (100 : Int32)), (.int (32 : Int32)), (.int (97 : Int32)), (.int (116 : Int32)), (.int (32 : Int32)), (.int (108 : Int32)), (.int (101 : Int32)), (.int (97 : Int32)), (.int (115 : Int32)), (.int (116 : Int32)), (.int (32 : Int32)), (.int i79), (.int (0 : Int32)), (.int (0 : Int32)), (.int (0 : Int32)), (.int (0 : Int32)), (.int (0 : Int32)), (.int (0 : Int32)), (.int (0 : Int32)), (.int (0 : Int32)), (.int (0 : Int32)), (.int (0 : Int32)), (.int (0 : Int32)), (.int (0 : Int32)), (.int (0 : Int32)), (.int (0 : Int32)), (.int (0 : Int32))] (.int (0 : Int32))) :
    MetFree l mn27 (head1 (Jvm.Cond.code mn27 jdk_65_method_132_code 3 (some (.array .byte)) :: ws) ({ frames := 2, cells := 1, slots := 19, locals := 34 } : Room)) (fun a U => a = #[(.ref b58a), (.int (0 : Int32)), (.int (19 : Int32))] ∧ Z.Warmed39 U.vm ∧ U.heap = h0) (fun _ _ _ _ _ => True) (fun _ U o U' => ∃ v L, o = .returned v ∧ Q31a29 Z b58a k58b i79 h0 n0 v U'.heap L ∧ FrameEnd U o U' L ({ frames := 2, cells := 1, slots := 19, locals := 34 } : Room).cells ({ frames := 2, cells := 1, slots := 19, locals := 34 } : Room).slots) := by
  refine MetFree.of_bodySF (plainFor_of_name pn_9) hisR ?_
  intro p e s m args below meth c s₁ Bd hml0 hP hK
  obtain ⟨rfl, hZ, hh⟩ := hP
  have hx := Bd.exec
  have hby := Bd.bytes
  have hml : c.maxLocals = 3 := hml0
  have hown : s.vm.findClass "java/util/Arrays" = some m.cls := findClass_of_methodNamed Bd.named
  have hnm := (name_of_methodNamed Bd.named Bd.method).1
  have X0 : Stand p l e ({ frames := 2, cells := 1, slots := 19, locals := 34 } : Room) s m #[(.ref b58a), (.int (0 : Int32)), (.int (19 : Int32))] below meth c s₁ [] 0 0 := Stand.of_body Bd
  have e0 : s₁.heap = h0 := by rw [← hh, Bd.state]; rfl
  have N0 := Fr.nil n0
  show own_Ends p e below s (Q31a29 Z b58a k58b i79 h0 n0) _ _ s₁ _
  rw [ef_rm31a29 m b58a]
  refine own_go (T' := s₁) (f' := (mkF m 10 #[.val (.ref b58a), .val (.int (0 : Int32)), .val (.int (19 : Int32))] [])) (fun _ k => XS.iloadN X0.here hx rfl (hb hby d31_0) rfl (XS.ifNo X0.here hx rfl (hb hby d31_1) rfl ((if0 _ _).trans (teq (by decide : ((0 : Int32) = (0 : Int32)))).2) (XS.iloadN X0.here hx rfl (hb hby d31_4) rfl (XS.aloadN X0.here hx rfl (hb hby d31_5) rfl rfl (own_alen X0 hx hZ e0 PV16 rfl rfl (hb hby d31_6) (XS.icmpNo X0.here hx rfl (hb hby d31_7) rfl (feq (by decide : ¬ ((19 : Int32) = (34 : Int32)))).1 k)))))) ?_
  refine own_go (T' := s₁) (f' := (mkF m 13 #[.val (.ref b58a), .val (.int (0 : Int32)), .val (.int (19 : Int32))] [(.int (19 : Int32)), (.int (0 : Int32)), (.ref b58a)])) (fun _ k => XS.aloadN X0.here hx rfl (hb hby d31_10) rfl rfl (XS.iloadN X0.here hx rfl (hb hby d31_11) rfl (XS.iloadN X0.here hx rfl (hb hby d31_12) rfl k))) ?_
  obtain ⟨_, _, ⟨T93, L93, k93, n93⟩, -, X93, ⟨Lc93, hQ93, l93, y93, z93⟩, st93⟩ := Jvm.LawKit.callS X0 hx (y := mn26) hown (mvT hZ (ow176 hw)) (mvT hZ (ow177 hw)) (mvT hZ (ow97 hw)) (mvT hZ (ow178 hw)) (by decide) (backOf (W := 0) (rm32a30 l Z a0 hw [] b58a k58b i79 h0 n0 Z0 PV16) hZ (ow178 hw) (ow97 hw) (by decide) (by decide)) (g := (mkF m 13 #[.val (.ref b58a), .val (.int (0 : Int32)), .val (.int (19 : Int32))] [(.int (19 : Int32)), (.int (0 : Int32)), (.ref b58a)])) rfl (by rw [hml]; rfl) (argsL := [(.ref b58a), (.int (0 : Int32)), (.int (19 : Int32))]) (rest := []) (lenOf pd27 rfl) rfl (by show 2 * 0 + _ ≤ _; exact Nat.le_of_eq rfl) (hb hby d31_13) (fun _ _ => ⟨rfl, e0, (by decide : 0 + 1 ≤ _), (by decide : 0 + 19 ≤ _)⟩)
  dsimp only [Pt.U, Pt.locs, Pt.cells, Pt.slots] at X93 l93 y93 z93 st93 hQ93
  subst l93 y93 z93
  obtain ⟨b93a, k93b, rfl, N93q, K93, n_b93a, sg_b93a, g93_0⟩ := hQ93
  have N93 := Fr.app N0 N93q
  have sz_b93a : h0.size ≤ b93a := Nat.le_trans (Keep.refl h0 []).1 sg_b93a
  have eK93 : T93.heap = T93.heap := rfl
  have KK93 : Keep h0 T93.heap [] := Keep.trans (Keep.refl h0 []) K93 all0
  refine own_go (T' := T93) (f' := (mkF m 16 #[.val (.ref b58a), .val (.int (0 : Int32)), .val (.int (19 : Int32))] [(.ref b93a)])) (fun _ k => st93 _ k) ?_
  refine own_ret X93 (v := some (.ref b93a)) (fun h => by rw [Bd.returns] at h; cases h) Bd.notSynchronized (fun fs hr => own_retA X93 hx Bd.returns rfl rfl (hb hby d31_16) hr) ?_ (by decide) (by decide)
  show Q31a29 Z b58a k58b i79 h0 n0 _ T93.heap _
  rw [eK93]
  exact ⟨b93a, k93b, rfl, N93, KK93, n_b93a, sz_b93a, g93_0⟩
theorem d27_0 : decode jdk_42_method_150_code 0 = .ok (.aload_n 0, 1) := by decide +kernel
theorem d27_1 : decode jdk_42_method_150_code 1 = .ok (.invokespecial 1, 3) := by decide +kernel
theorem d27_4 : decode jdk_42_method_150_code 4 = .ok (.aload_n 1, 1) := by decide +kernel
theorem d27_5 : decode jdk_42_method_150_code 5 = .ok (.invokevirtual 552, 3) := by decide +kernel
theorem d27_8 : decode jdk_42_method_150_code 8 = .ok (.astore_n 3, 1) := by decide +kernel
theorem d27_9 : decode jdk_42_method_150_code 9 = .ok (.aload_n 1, 1) := by decide +kernel
theorem d27_10 : decode jdk_42_method_150_code 10 = .ok (.invokevirtual 549, 3) := by decide +kernel
theorem d27_13 : decode jdk_42_method_150_code 13 = .ok (.istore 4, 2) := by decide +kernel
theorem d27_15 : decode jdk_42_method_150_code 15 = .ok (.aload_n 1, 1) := by decide +kernel
theorem d27_16 : decode jdk_42_method_150_code 16 = .ok (.invokevirtual 1047, 3) := by decide +kernel
theorem d27_19 : decode jdk_42_method_150_code 19 = .ok (.ifCond .eq 22, 3) := by decide +kernel
theorem d27_22 : decode jdk_42_method_150_code 22 = .ok (.aload_n 0, 1) := by decide +kernel
theorem d27_23 : decode jdk_42_method_150_code 23 = .ok (.iconst 0, 1) := by decide +kernel
theorem d27_24 : decode jdk_42_method_150_code 24 = .ok (.putfield 15, 3) := by decide +kernel
theorem d27_27 : decode jdk_42_method_150_code 27 = .ok (.aload_n 0, 1) := by decide +kernel
theorem d27_28 : decode jdk_42_method_150_code 28 = .ok (.aload_n 3, 1) := by decide +kernel
theorem d27_29 : decode jdk_42_method_150_code 29 = .ok (.iconst 0, 1) := by decide +kernel
theorem d27_30 : decode jdk_42_method_150_code 30 = .ok (.iload 4, 2) := by decide +kernel
theorem d27_32 : decode jdk_42_method_150_code 32 = .ok (.invokestatic 54, 3) := by decide +kernel
theorem d27_35 : decode jdk_42_method_150_code 35 = .ok (.putfield 9, 3) := by decide +kernel
theorem d27_38 : decode jdk_42_method_150_code 38 = .ok (.goto 59, 3) := by decide +kernel
theorem d27_97 : decode jdk_42_method_150_code 97 = .ok (.return_, 1) := by decide +kernel
theorem ef_rm27a25 (m : MethodId) (b80 : Addr) (b2 : Addr) : entryFrame m #[(.ref b80), (.ref b2), .null] 5 = mkF m 0 #[.val (.ref b80), .val (.ref b2), .val .null, .unset, .unset] [] := by first | (simp [entryFrame, mkF, argsToLocals, Value.category]; done) | rfl
def Q27a25 (Z : State) (b80 : Addr) (b2 : Addr) (cs : Int32) (b58a : Addr) (k58b : ClassId) (i79 : Int32) (h0 : Heap) (n0 : Nat) (v : Option Value) (h : Heap) (L : List Loc) : Prop := ∃ (b94a : Addr) (k94b : ClassId), v = none ∧ Fr n0 L ∧ Keep h0 h [b80] ∧ n0 ≤ b94a ∧ h0.size ≤ b94a ∧ Fld Z h b80 "java/lang/String" "value" "[B" (.ref b94a) ∧ Fld Z h b80 "java/lang/String" "coder" "B" (.int (0 : Int32)) ∧ Arv Z h b94a k94b .byte (19 : Int32) [(.int (101 : Int32)), (.int (120 : Int32)), (.int (112 : Int32)), (.int (101 : Int32)), (.int (99 : Int32)), (.int (116 : Int32)), (.int (101 : Int32)), (.int (100 : Int32)), (.int (32 : Int32)), (.int (97 : Int32)), (.int (116 : Int32)), (.int (32 : Int32)), (.int (108 : Int32)), (.int (101 : Int32)), (.int (97 : Int32)), (.int (115 : Int32)), (.int (116 : Int32)), (.int (32 : Int32)), (.int i79)] (.int (0 : Int32))
set_option maxRecDepth 65536 in
set_option maxHeartbeats 40000000 in
theorem rm27a25 (l : Launch) (Z : State) (a0 : Array Value) (hw : ∀ d ∈ tables_1, d.before a0 Z = true) (ws : List Jvm.Cond) (b80 : Addr) (b2 : Addr) (cs : Int32) (b58a : Addr) (k58b : ClassId) (i79 : Int32) (h0 : Heap) (n0 : Nat) (Z0 : n0 ≤ h0.size) (PS0 : Sta Z h0 "java/lang/String" "COMPACT_STRINGS" "Z" (.int cs)) (PE7 : Exa Z h0 b2 "java/lang/StringBuilder") (PF8 : Fld Z h0 b2 "java/lang/AbstractStringBuilder" "value" "[B" (.ref b58a)) (PF9 : Fld Z h0 b2 "java/lang/AbstractStringBuilder" "coder" "B" (.int (0 : Int32))) (PF10 : Fld Z h0 b2 "java/lang/AbstractStringBuilder" "count" "I" (.int (19 : Int32))) (PV16 : Arv Z h0 b58a k58b .byte (34 : Int32) [(.int (101 : Int32)), (.int (120 : Int32)), (.int (112 : Int32)), (.int (101 : Int32)), (.int (99 : Int32)), (.int (116 : Int32)), (.int (101 : Int32)), (.int (100 : Int32)), (.int (32 : Int32)), (.int (97 : Int32)), (.int (116 : Int32)), (.int (32 : Int32)), (.int (108 : Int32)), (.int (101 : Int32)), (.int (97 : Int32)), (.int (115 : Int32)), (.int (116 : Int32)), (.int (32 : Int32)), (.int i79), (.int (0 : Int32)), (.int (0 : Int32)), (.int (0 : Int32)), (.int (0 : Int32)), (.int (0 : Int32)), (.int (0 : Int32)), (.int (0 : Int32)), (.int (0 : Int32)), (.int (0 : Int32)), (.int (0 : Int32)), (.int (0 : Int32)), (.int (0 : Int32)), (.int (0 : Int32)), (.int (0 : Int32)), (.int (0 : Int32))] (.int (0 : Int32))) (PE17 : Exa Z h0 b80 "java/lang/String") (PF18 : Fld Z h0 b80 "java/lang/String" "value" "[B" .null) (PF19 : Fld Z h0 b80 "java/lang/String" "coder" "B" (.int (0 : Int32))) (PP0 : ¬ (cs = (0 : Int32))) (ne_b58a_b80 : b58a ≠ b80) (n_b80 : n0 ≤ b80) :
    MetFree l mn28 (head1 (Jvm.Cond.code mn28 jdk_42_method_150_code 5 none :: ws) ({ frames := 3, cells := 1, slots := 19, locals := 49 } : Room)) (fun a U => a = #[(.ref b80), (.ref b2), .null] ∧ Z.Warmed39 U.vm ∧ U.heap = h0) (fun _ _ _ _ _ => True) (fun _ U o U' => ∃ v L, o = .returned v ∧ Q27a25 Z b80 b2 cs b58a k58b i79 h0 n0 v U'.heap L ∧ FrameEnd U o U' L ({ frames := 3, cells := 1, slots := 19, locals := 49 } : Room).cells ({ frames := 3, cells := 1, slots := 19, locals := 49 } : Room).slots) := by
  refine MetFree.of_bodySF (plainFor_of_name pn_7) hisR ?_
  intro p e s m args below meth c s₁ Bd hml0 hP hK
  obtain ⟨rfl, hZ, hh⟩ := hP
  have hx := Bd.exec
  have hby := Bd.bytes
  have hml : c.maxLocals = 5 := hml0
  have hown : s.vm.findClass "java/lang/String" = some m.cls := findClass_of_methodNamed Bd.named
  have hnm := (name_of_methodNamed Bd.named Bd.method).1
  have X0 : Stand p l e ({ frames := 3, cells := 1, slots := 19, locals := 49 } : Room) s m #[(.ref b80), (.ref b2), .null] below meth c s₁ [] 0 0 := Stand.of_body Bd
  have e0 : s₁.heap = h0 := by rw [← hh, Bd.state]; rfl
  have N0 := Fr.nil n0
  show own_Ends p e below s (Q27a25 Z b80 b2 cs b58a k58b i79 h0 n0) _ _ s₁ _
  rw [ef_rm27a25 m b80 b2]
  refine own_go (T' := s₁) (f' := (mkF m 1 #[.val (.ref b80), .val (.ref b2), .val .null, .unset, .unset] [(.ref b80)])) (fun _ k => XS.aloadN X0.here hx rfl (hb hby d27_0) rfl rfl k) ?_
  obtain ⟨T81, X81, e81, st81⟩ := initO X0 hx hZ hown (ow158 hw) (ow20 hw) (ow21 hw) e0 (g := (mkF m 1 #[.val (.ref b80), .val (.ref b2), .val .null, .unset, .unset] [(.ref b80)])) rfl (by rw [hml]; rfl) rfl (hb hby d27_1) (by decide) (W := 0) (by show 2 * 0 + _ ≤ _; exact Nat.le_of_eq rfl) (by decide)
  refine own_go (T' := T81) (f' := (mkF m 5 #[.val (.ref b80), .val (.ref b2), .val .null, .unset, .unset] [(.ref b2)])) (fun _ k => st81 _ (XS.aloadN X81.here hx rfl (hb hby d27_4) rfl rfl k)) ?_
  obtain ⟨cq83, kq83, q83a, q83b, q83c⟩ := isOf hZ e81 PE7
  obtain ⟨_, _, ⟨T83, L83, k83, n83⟩, -, X83, ⟨Lc83, hQ83, l83, y83, z83⟩, st83⟩ := X81.virtualBack hx (y := mn22) (z := mn22) hown (mvT hZ (ow159 hw)) (mvT hZ (ow160 hw)) (notFace_of_selects (args := #[]) (mvT hZ (ow162 hw))) (mvT hZ (ow162 hw)) (mvT hZ (ow161 hw)) (by decide) (backOf (W := 0) (rm28a26 l Z a0 hw [] b2 b58a h0 n0 Z0 PF8) hZ (ow163 hw) (ow41 hw) (by decide) (by decide)) q83a q83c (g := (mkF m 5 #[.val (.ref b80), .val (.ref b2), .val .null, .unset, .unset] [(.ref b2)])) rfl (by rw [hml]; rfl) (Steps.refl _) (argsL := []) (rest := []) (lenOf pd7 rfl) rfl (by show 2 * 0 + _ ≤ _; exact Nat.le_of_eq rfl) (hb hby d27_5) (fun _ _ => ⟨rfl, e81, (by decide : 0 + 0 ≤ _), (by decide : 0 + 0 ≤ _)⟩)
  dsimp only [Pt.U, Pt.locs, Pt.cells, Pt.slots] at X83 l83 y83 z83 st83 hQ83
  subst l83 y83 z83
  obtain ⟨rfl, N83q, hh83⟩ := hQ83
  have N83 := Fr.app N0 N83q
  refine own_go (T' := T83) (f' := (mkF m 10 #[.val (.ref b80), .val (.ref b2), .val .null, .val (.ref b58a), .unset] [(.ref b2)])) (fun _ k => st83.trans (XS.astoreN X83.here hx rfl (hb hby d27_8) rfl rfl (l' := #[.val (.ref b80), .val (.ref b2), .val .null, .val (.ref b58a), .unset]) rfl (XS.aloadN X83.here hx rfl (hb hby d27_9) rfl rfl k))) ?_
  obtain ⟨cq86, kq86, q86a, q86b, q86c⟩ := isOf hZ hh83 PE7
  obtain ⟨_, _, ⟨T86, L86, k86, n86⟩, -, X86, ⟨Lc86, hQ86, l86, y86, z86⟩, st86⟩ := X83.virtualBack hx (y := mn23) (z := mn24) hown (mvT hZ (ow164 hw)) (mvT hZ (ow165 hw)) (own_nf (args := #[]) (y2 := mn11) (mvT hZ (ow78 hw)) rfl) (mvT hZ (ow167 hw)) (mvT hZ (ow168 hw)) (by decide) (backOf (W := 0) (rm29a27 l Z a0 hw [] b2 h0 n0 Z0 PE7 PF10) hZ (ow169 hw) (ow33 hw) (by decide) (by decide)) q86a q86c (g := (mkF m 10 #[.val (.ref b80), .val (.ref b2), .val .null, .val (.ref b58a), .unset] [(.ref b2)])) rfl (by rw [hml]; rfl) (Steps.refl _) (argsL := []) (rest := []) (lenOf pd1 rfl) rfl (by show 2 * 0 + _ ≤ _; exact Nat.le_of_eq rfl) (hb hby d27_10) (fun _ _ => ⟨rfl, hh83, (by decide : 0 + 0 ≤ _), (by decide : 0 + 0 ≤ _)⟩)
  dsimp only [Pt.U, Pt.locs, Pt.cells, Pt.slots] at X86 l86 y86 z86 st86 hQ86
  subst l86 y86 z86
  obtain ⟨rfl, N86q, hh86⟩ := hQ86
  have N86 := Fr.app N83 N86q
  refine own_go (T' := T86) (f' := (mkF m 16 #[.val (.ref b80), .val (.ref b2), .val .null, .val (.ref b58a), .val (.int (19 : Int32))] [(.ref b2)])) (fun _ k => st86.trans (XS.istore X86.here hx rfl (hb hby d27_13) rfl (l' := #[.val (.ref b80), .val (.ref b2), .val .null, .val (.ref b58a), .val (.int (19 : Int32))]) rfl (XS.aloadN X86.here hx rfl (hb hby d27_15) rfl rfl k))) ?_
  obtain ⟨cq87, kq87, q87a, q87b, q87c⟩ := isOf hZ hh86 PE7
  obtain ⟨_, _, ⟨T87, L87, k87, n87⟩, -, X87, ⟨Lc87, hQ87, l87, y87, z87⟩, st87⟩ := X86.virtualBack hx (y := mn18) (z := mn18) hown (mvT hZ (ow172 hw)) (mvT hZ (ow137 hw)) (notFace_of_selects (args := #[]) (mvT hZ (ow139 hw))) (mvT hZ (ow139 hw)) (mvT hZ (ow138 hw)) (by decide) (backOf (W := 0) (rm23a21 l Z a0 hw [] b2 cs h0 n0 Z0 PS0 PF9 PP0) hZ (ow140 hw) (ow41 hw) (by decide) (by decide)) q87a q87c (g := (mkF m 16 #[.val (.ref b80), .val (.ref b2), .val .null, .val (.ref b58a), .val (.int (19 : Int32))] [(.ref b2)])) rfl (by rw [hml]; rfl) (Steps.refl _) (argsL := []) (rest := []) (lenOf pd6 rfl) rfl (by show 2 * 0 + _ ≤ _; exact Nat.le_of_eq rfl) (hb hby d27_16) (fun _ _ => ⟨rfl, hh86, (by decide : 0 + 0 ≤ _), (by decide : 0 + 0 ≤ _)⟩)
  dsimp only [Pt.U, Pt.locs, Pt.cells, Pt.slots] at X87 l87 y87 z87 st87 hQ87
  subst l87 y87 z87
  obtain ⟨rfl, N87q, hh87⟩ := hQ87
  have N87 := Fr.app N86 N87q
  refine own_go (T' := T87) (f' := (mkF m 24 #[.val (.ref b80), .val (.ref b2), .val .null, .val (.ref b58a), .val (.int (19 : Int32))] [(.int (0 : Int32)), (.ref b80)])) (fun _ k => st87.trans (XS.ifNo X87.here hx rfl (hb hby d27_19) rfl ((if0 _ _).trans (feq (by decide : ¬ ((1 : Int32) = (0 : Int32)))).1) (XS.aloadN X87.here hx rfl (hb hby d27_22) rfl rfl (XS.iconst X87.here hx rfl (hb hby d27_23) k)))) ?_
  obtain ⟨T88, h88, X88, e88, W88, st88⟩ := putFN X87 hx hZ hown (ow72 hw) Via.refl hh87 PF19 PE17 (Or.inr ⟨(ow13 hw), rfl, hnm⟩) (ow10 hw) (ty := .byte) (v' := (.int (0 : Int32))) (by decide) rfl (fits_nar_byte (0 : Int32)) (g := (mkF m 24 #[.val (.ref b80), .val (.ref b2), .val .null, .val (.ref b58a), .val (.int (19 : Int32))] [(.int (0 : Int32)), (.ref b80)])) rfl rfl (hb hby d27_24)
  have Fw88 := Fld.same W88 PF19
  have K88 : Keep h0 h88 [b80] := (Keep.refl h0 [b80]).wr W88 (Or.inl (List.mem_of_getElem? (i := 0) rfl))
  have N88 := Fr.snoc X88 N87 n_b80
  refine own_go (T' := T88) (f' := (mkF m 32 #[.val (.ref b80), .val (.ref b2), .val .null, .val (.ref b58a), .val (.int (19 : Int32))] [(.int (19 : Int32)), (.int (0 : Int32)), (.ref b58a), (.ref b80)])) (fun _ k => st88 _ (XS.aloadN X88.here hx rfl (hb hby d27_27) rfl rfl (XS.aloadN X88.here hx rfl (hb hby d27_28) rfl rfl (XS.iconst X88.here hx rfl (hb hby d27_29) (XS.iload X88.here hx rfl (hb hby d27_30) rfl k))))) ?_
  obtain ⟨_, _, ⟨T94, L94, k94, n94⟩, -, X94, ⟨Lc94, hQ94, l94, y94, z94⟩, st94⟩ := Jvm.LawKit.callS X88 hx (y := mn27) hown (mvT hZ (ow173 hw)) (mvT hZ (ow174 hw)) (mvT hZ (ow97 hw)) (mvT hZ (ow175 hw)) (by decide) (backOf (W := 1) (rm31a29 l Z a0 hw [] b58a k58b i79 h88 n0 (Nat.le_trans Z0 (Keep.of_wr W88).1) (PV16.other W88 ne_b58a_b80)) hZ (ow175 hw) (ow97 hw) (by decide) (by decide)) (g := (mkF m 32 #[.val (.ref b80), .val (.ref b2), .val .null, .val (.ref b58a), .val (.int (19 : Int32))] [(.int (19 : Int32)), (.int (0 : Int32)), (.ref b58a), (.ref b80)])) rfl (by rw [hml]; rfl) (argsL := [(.ref b58a), (.int (0 : Int32)), (.int (19 : Int32))]) (rest := [(.ref b80)]) (lenOf pd27 rfl) rfl (by show 2 * 0 + _ ≤ _; exact Nat.le_of_eq rfl) (hb hby d27_32) (fun _ _ => ⟨rfl, e88, (by decide : 0 + 1 ≤ _), (by decide : 0 + 19 ≤ _)⟩)
  dsimp only [Pt.U, Pt.locs, Pt.cells, Pt.slots] at X94 l94 y94 z94 st94 hQ94
  subst l94 y94 z94
  obtain ⟨b94a, k94b, rfl, N94q, K94, n_b94a, sg_b94a, g94_0⟩ := hQ94
  have N94 := Fr.app N88 N94q
  have sz_b94a : h0.size ≤ b94a := Nat.le_trans K88.1 sg_b94a
  have eK94 : T94.heap = T94.heap := rfl
  have KK94 : Keep h0 T94.heap [b80] := Keep.trans K88 K94 all0
  refine own_go (T' := T94) (f' := (mkF m 35 #[.val (.ref b80), .val (.ref b2), .val .null, .val (.ref b58a), .val (.int (19 : Int32))] [(.ref b94a), (.ref b80)])) (fun _ k => st94 _ k) ?_
  have G95 := ((PF18.other W88 (Or.inr (slot_ne (Or.inr (ow12 hw)) (Or.inr (ow13 hw)) (by decide) (t := (.array .byte)) (t' := .byte) (by decide) (by decide)))).keep K94 nin0)
  obtain ⟨T96, h96, X96, e96, W96, st96⟩ := putF X94 hx hZ hown (host := "") (Or.inl (ow65 hw)) Via.refl eK94 G95 ((PE17.wr W88).keep K94) (Or.inr ⟨(ow12 hw), rfl, hnm⟩) (ow10 hw) (ty := (.array .byte)) (by decide) rfl rfl (g := (mkF m 35 #[.val (.ref b80), .val (.ref b2), .val .null, .val (.ref b58a), .val (.int (19 : Int32))] [(.ref b94a), (.ref b80)])) rfl rfl (hb hby d27_35)
  have Fw96 := Fld.same W96 G95
  have K96 : Keep h0 h96 [b80] := KK94.wr W96 (Or.inl (List.mem_of_getElem? (i := 0) rfl))
  have N96 := Fr.snoc X96 N94 n_b80
  refine own_go (T' := T96) (f' := (mkF m 97 #[.val (.ref b80), .val (.ref b2), .val .null, .val (.ref b58a), .val (.int (19 : Int32))] [])) (fun _ k => st96 _ (XS.goto X96.here hx rfl (pc0 := 38) (pc' := 97) rfl (hb hby d27_38) (by decide) (by decide) k)) ?_
  refine own_ret X96 (v := none) (fun _ => rfl) Bd.notSynchronized (fun fs hr => X96.returnOut hx Bd.returns (hb hby d27_97) hr) ?_ (by decide) (by decide)
  show Q27a25 Z b80 b2 cs b58a k58b i79 h0 n0 _ T96.heap _
  have G97 := ((Fw88.keep K94 nin0).other W96 (Or.inr (slot_ne (Or.inr (ow13 hw)) (Or.inr (ow12 hw)) (by decide) (t := .byte) (t' := (.array .byte)) (by decide) (by decide))))
  rw [e96]
  exact ⟨b94a, k94b, rfl, N96, K96, n_b94a, sz_b94a, Fw96, G97, (g94_0.other W96 (Ne.symm (Nat.ne_of_lt (Nat.lt_of_lt_of_le (Nat.lt_of_lt_of_le PE17.lt (Keep.of_wr W88).1) sg_b94a))))⟩
theorem pd19 : parseMethodDescriptor "(Ljava/lang/AbstractStringBuilder;Ljava/lang/Void;)V" = some ⟨[(.object "java/lang/AbstractStringBuilder"), (.object "java/lang/Void")], none⟩ := by decide +kernel
theorem d26_0 : decode jdk_42_method_53_code 0 = .ok (.aload_n 0, 1) := by decide +kernel
theorem d26_1 : decode jdk_42_method_53_code 1 = .ok (.aload_n 1, 1) := by decide +kernel
theorem d26_2 : decode jdk_42_method_53_code 2 = .ok (.aconst_null, 1) := by decide +kernel
theorem d26_3 : decode jdk_42_method_53_code 3 = .ok (.invokespecial 489, 3) := by decide +kernel
theorem d26_6 : decode jdk_42_method_53_code 6 = .ok (.return_, 1) := by decide +kernel
theorem ef_rm26a24 (m : MethodId) (b80 : Addr) (b2 : Addr) : entryFrame m #[(.ref b80), (.ref b2)] 2 = mkF m 0 #[.val (.ref b80), .val (.ref b2)] [] := by first | (simp [entryFrame, mkF, argsToLocals, Value.category]; done) | rfl
def Q26a24 (Z : State) (b80 : Addr) (b2 : Addr) (cs : Int32) (b58a : Addr) (k58b : ClassId) (i79 : Int32) (h0 : Heap) (n0 : Nat) (v : Option Value) (h : Heap) (L : List Loc) : Prop := ∃ (b98a : Addr) (k98b : ClassId), v = none ∧ Fr n0 L ∧ Keep h0 h [b80] ∧ n0 ≤ b98a ∧ h0.size ≤ b98a ∧ Fld Z h b80 "java/lang/String" "value" "[B" (.ref b98a) ∧ Fld Z h b80 "java/lang/String" "coder" "B" (.int (0 : Int32)) ∧ Arv Z h b98a k98b .byte (19 : Int32) [(.int (101 : Int32)), (.int (120 : Int32)), (.int (112 : Int32)), (.int (101 : Int32)), (.int (99 : Int32)), (.int (116 : Int32)), (.int (101 : Int32)), (.int (100 : Int32)), (.int (32 : Int32)), (.int (97 : Int32)), (.int (116 : Int32)), (.int (32 : Int32)), (.int (108 : Int32)), (.int (101 : Int32)), (.int (97 : Int32)), (.int (115 : Int32)), (.int (116 : Int32)), (.int (32 : Int32)), (.int i79)] (.int (0 : Int32))
set_option maxRecDepth 65536 in
set_option maxHeartbeats 40000000 in
theorem rm26a24 (l : Launch) (Z : State) (a0 : Array Value) (hw : ∀ d ∈ tables_1, d.before a0 Z = true) (ws : List Jvm.Cond) (b80 : Addr) (b2 : Addr) (cs : Int32) (b58a : Addr) (k58b : ClassId) (i79 : Int32) (h0 : Heap) (n0 : Nat) (Z0 : n0 ≤ h0.size) (PS0 : Sta Z h0 "java/lang/String" "COMPACT_STRINGS" "Z" (.int cs)) (PE7 : Exa Z h0 b2 "java/lang/StringBuilder") (PF8 : Fld Z h0 b2 "java/lang/AbstractStringBuilder" "value" "[B" (.ref b58a)) (PF9 : Fld Z h0 b2 "java/lang/AbstractStringBuilder" "coder" "B" (.int (0 : Int32))) (PF10 : Fld Z h0 b2 "java/lang/AbstractStringBuilder" "count" "I" (.int (19 : Int32))) (PV16 : Arv Z h0 b58a k58b .byte (34 : Int32) [(.int (101 : Int32)), (.int (120 : Int32)), (.int (112 : Int32)), (.int (101 : Int32)), (.int (99 : Int32)), (.int (116 : Int32)), (.int (101 : Int32)), (.int (100 : Int32)), (.int (32 : Int32)), (.int (97 : Int32)), (.int (116 : Int32)), (.int (32 : Int32)), (.int (108 : Int32)), (.int (101 : Int32)), (.int (97 : Int32)), (.int (115 : Int32)), (.int (116 : Int32)), (.int (32 : Int32)), (.int i79), (.int (0 : Int32)), (.int (0 : Int32)), (.int (0 : Int32)), (.int (0 : Int32)), (.int (0 : Int32)), (.int (0 : Int32)), (.int (0 : Int32)), (.int (0 : Int32)), (.int (0 : Int32)), (.int (0 : Int32)), (.int (0 : Int32)), (.int (0 : Int32)), (.int (0 : Int32)), (.int (0 : Int32)), (.int (0 : Int32))] (.int (0 : Int32))) (PE17 : Exa Z h0 b80 "java/lang/String") (PF18 : Fld Z h0 b80 "java/lang/String" "value" "[B" .null) (PF19 : Fld Z h0 b80 "java/lang/String" "coder" "B" (.int (0 : Int32))) (PP0 : ¬ (cs = (0 : Int32))) (ne_b58a_b80 : b58a ≠ b80) (n_b80 : n0 ≤ b80) :
    MetFree l mn29 (head1 (Jvm.Cond.code mn29 jdk_42_method_53_code 2 none :: ws) ({ frames := 4, cells := 1, slots := 19, locals := 65 } : Room)) (fun a U => a = #[(.ref b80), (.ref b2)] ∧ Z.Warmed39 U.vm ∧ U.heap = h0) (fun _ _ _ _ _ => True) (fun _ U o U' => ∃ v L, o = .returned v ∧ Q26a24 Z b80 b2 cs b58a k58b i79 h0 n0 v U'.heap L ∧ FrameEnd U o U' L ({ frames := 4, cells := 1, slots := 19, locals := 65 } : Room).cells ({ frames := 4, cells := 1, slots := 19, locals := 65 } : Room).slots) := by
  refine MetFree.of_bodySF (plainFor_of_name pn_7) hisR ?_
  intro p e s m args below meth c s₁ Bd hml0 hP hK
  obtain ⟨rfl, hZ, hh⟩ := hP
  have hx := Bd.exec
  have hby := Bd.bytes
  have hml : c.maxLocals = 2 := hml0
  have hown : s.vm.findClass "java/lang/String" = some m.cls := findClass_of_methodNamed Bd.named
  have hnm := (name_of_methodNamed Bd.named Bd.method).1
  have X0 : Stand p l e ({ frames := 4, cells := 1, slots := 19, locals := 65 } : Room) s m #[(.ref b80), (.ref b2)] below meth c s₁ [] 0 0 := Stand.of_body Bd
  have e0 : s₁.heap = h0 := by rw [← hh, Bd.state]; rfl
  have N0 := Fr.nil n0
  show own_Ends p e below s (Q26a24 Z b80 b2 cs b58a k58b i79 h0 n0) _ _ s₁ _
  rw [ef_rm26a24 m b80 b2]
  refine own_go (T' := s₁) (f' := (mkF m 3 #[.val (.ref b80), .val (.ref b2)] [.null, (.ref b2), (.ref b80)])) (fun _ k => XS.aloadN X0.here hx rfl (hb hby d26_0) rfl rfl (XS.aloadN X0.here hx rfl (hb hby d26_1) rfl rfl (XS.aconstNull X0.here hx rfl (hb hby d26_2) k))) ?_
  obtain ⟨_, _, ⟨T98, L98, k98, n98⟩, -, X98, ⟨Lc98, hQ98, l98, y98, z98⟩, st98⟩ := X0.specialBack hx (y := mn28) rfl hown (mvT hZ (ow155 hw)) (mvT hZ (ow156 hw)) (mvT hZ (ow157 hw)) (by decide) (backOf (W := 0) (rm27a25 l Z a0 hw [] b80 b2 cs b58a k58b i79 h0 n0 Z0 PS0 PE7 PF8 PF9 PF10 PV16 PE17 PF18 PF19 PP0 ne_b58a_b80 n_b80) hZ (ow157 hw) (ow9 hw) (by decide) (by decide)) (g := (mkF m 3 #[.val (.ref b80), .val (.ref b2)] [.null, (.ref b2), (.ref b80)])) rfl (by rw [hml]; rfl) (Steps.refl _) (a := b80) (argsL := [(.ref b2), .null]) (rest := []) (lenOf pd19 rfl) rfl (by show 2 * 0 + _ ≤ _; exact Nat.le_of_eq rfl) (hb hby d26_3) (fun _ _ => ⟨rfl, e0, (by decide : 0 + 1 ≤ _), (by decide : 0 + 19 ≤ _)⟩)
  dsimp only [Pt.U, Pt.locs, Pt.cells, Pt.slots] at X98 l98 y98 z98 st98 hQ98
  subst l98 y98 z98
  obtain ⟨b98a, k98b, rfl, N98q, K98, n_b98a, sg_b98a, g98_0, g98_1, g98_2⟩ := hQ98
  have N98 := Fr.app N0 N98q
  have sz_b98a : h0.size ≤ b98a := Nat.le_trans (Keep.refl h0 [b80]).1 sg_b98a
  have eK98 : T98.heap = T98.heap := rfl
  have KK98 : Keep h0 T98.heap [b80] := Keep.trans (Keep.refl h0 [b80]) K98 (allS (Or.inl (List.mem_of_getElem? (i := 0) rfl)) all0)
  refine own_go (T' := T98) (f' := (mkF m 6 #[.val (.ref b80), .val (.ref b2)] [])) (fun _ k => st98.trans k) ?_
  refine own_ret X98 (v := none) (fun _ => rfl) Bd.notSynchronized (fun fs hr => X98.returnOut hx Bd.returns (hb hby d26_6) hr) ?_ (by decide) (by decide)
  show Q26a24 Z b80 b2 cs b58a k58b i79 h0 n0 _ T98.heap _
  rw [eK98]
  exact ⟨b98a, k98b, rfl, N98, KK98, n_b98a, sz_b98a, g98_0, g98_1, g98_2⟩
theorem pd24 : parseMethodDescriptor "(Ljava/lang/StringBuilder;)V" = some ⟨[(.object "java/lang/StringBuilder")], none⟩ := by decide +kernel
theorem d25_0 : decode jdk_67_method_42_code 0 = .ok (.new 18, 3) := by decide +kernel
theorem d25_3 : decode jdk_67_method_42_code 3 = .ok (.dup, 1) := by decide +kernel
theorem d25_4 : decode jdk_67_method_42_code 4 = .ok (.aload_n 0, 1) := by decide +kernel
theorem d25_5 : decode jdk_67_method_42_code 5 = .ok (.invokespecial 137, 3) := by decide +kernel
theorem d25_8 : decode jdk_67_method_42_code 8 = .ok (.areturn, 1) := by decide +kernel
theorem ef_rm25a23 (m : MethodId) (b2 : Addr) : entryFrame m #[(.ref b2)] 1 = mkF m 0 #[.val (.ref b2)] [] := by first | (simp [entryFrame, mkF, argsToLocals, Value.category]; done) | rfl
def Q25a23 (Z : State) (b2 : Addr) (cs : Int32) (b58a : Addr) (k58b : ClassId) (i79 : Int32) (h0 : Heap) (n0 : Nat) (v : Option Value) (h : Heap) (L : List Loc) : Prop := ∃ (b80 : Addr) (b99a : Addr) (k99b : ClassId), v = some (.ref b80) ∧ Fr n0 L ∧ Keep h0 h [] ∧ n0 ≤ b80 ∧ h0.size ≤ b80 ∧ n0 ≤ b99a ∧ h0.size ≤ b99a ∧ b99a ≠ b80 ∧ Exa Z h b80 "java/lang/String" ∧ Fld Z h b80 "java/lang/String" "value" "[B" (.ref b99a) ∧ Fld Z h b80 "java/lang/String" "coder" "B" (.int (0 : Int32)) ∧ Arv Z h b99a k99b .byte (19 : Int32) [(.int (101 : Int32)), (.int (120 : Int32)), (.int (112 : Int32)), (.int (101 : Int32)), (.int (99 : Int32)), (.int (116 : Int32)), (.int (101 : Int32)), (.int (100 : Int32)), (.int (32 : Int32)), (.int (97 : Int32)), (.int (116 : Int32)), (.int (32 : Int32)), (.int (108 : Int32)), (.int (101 : Int32)), (.int (97 : Int32)), (.int (115 : Int32)), (.int (116 : Int32)), (.int (32 : Int32)), (.int i79)] (.int (0 : Int32))
set_option maxRecDepth 65536 in
set_option maxHeartbeats 40000000 in
theorem rm25a23 (l : Launch) (Z : State) (a0 : Array Value) (hw : ∀ d ∈ tables_1, d.before a0 Z = true) (ws : List Jvm.Cond) (b2 : Addr) (cs : Int32) (b58a : Addr) (k58b : ClassId) (i79 : Int32) (h0 : Heap) (n0 : Nat) (Z0 : n0 ≤ h0.size) (PS0 : Sta Z h0 "java/lang/String" "COMPACT_STRINGS" "Z" (.int cs)) (PE7 : Exa Z h0 b2 "java/lang/StringBuilder") (PF8 : Fld Z h0 b2 "java/lang/AbstractStringBuilder" "value" "[B" (.ref b58a)) (PF9 : Fld Z h0 b2 "java/lang/AbstractStringBuilder" "coder" "B" (.int (0 : Int32))) (PF10 : Fld Z h0 b2 "java/lang/AbstractStringBuilder" "count" "I" (.int (19 : Int32))) (PV16 : Arv Z h0 b58a k58b .byte (34 : Int32) [(.int (101 : Int32)), (.int (120 : Int32)), (.int (112 : Int32)), (.int (101 : Int32)), (.int (99 : Int32)), (.int (116 : Int32)), (.int (101 : Int32)), (.int (100 : Int32)), (.int (32 : Int32)), (.int (97 : Int32)), (.int (116 : Int32)), (.int (32 : Int32)), (.int (108 : Int32)), (.int (101 : Int32)), (.int (97 : Int32)), (.int (115 : Int32)), (.int (116 : Int32)), (.int (32 : Int32)), (.int i79), (.int (0 : Int32)), (.int (0 : Int32)), (.int (0 : Int32)), (.int (0 : Int32)), (.int (0 : Int32)), (.int (0 : Int32)), (.int (0 : Int32)), (.int (0 : Int32)), (.int (0 : Int32)), (.int (0 : Int32)), (.int (0 : Int32)), (.int (0 : Int32)), (.int (0 : Int32)), (.int (0 : Int32)), (.int (0 : Int32))] (.int (0 : Int32))) (PP0 : ¬ (cs = (0 : Int32))) :
    MetFree l mn30 (head1 (Jvm.Cond.code mn30 jdk_67_method_42_code 1 (some (.object "java/lang/String")) :: ws) ({ frames := 5, cells := 2, slots := 23, locals := 79 } : Room)) (fun a U => a = #[(.ref b2)] ∧ Z.Warmed39 U.vm ∧ U.heap = h0) (fun _ _ _ _ _ => True) (fun _ U o U' => ∃ v L, o = .returned v ∧ Q25a23 Z b2 cs b58a k58b i79 h0 n0 v U'.heap L ∧ FrameEnd U o U' L ({ frames := 5, cells := 2, slots := 23, locals := 79 } : Room).cells ({ frames := 5, cells := 2, slots := 23, locals := 79 } : Room).slots) := by
  refine MetFree.of_bodySF (plainFor_of_name pn_8) hisR ?_
  intro p e s m args below meth c s₁ Bd hml0 hP hK
  obtain ⟨rfl, hZ, hh⟩ := hP
  have hx := Bd.exec
  have hby := Bd.bytes
  have hml : c.maxLocals = 1 := hml0
  have hown : s.vm.findClass "java/lang/StringBuilder" = some m.cls := findClass_of_methodNamed Bd.named
  have hnm := (name_of_methodNamed Bd.named Bd.method).1
  have X0 : Stand p l e ({ frames := 5, cells := 2, slots := 23, locals := 79 } : Room) s m #[(.ref b2)] below meth c s₁ [] 0 0 := Stand.of_body Bd
  have e0 : s₁.heap = h0 := by rw [← hh, Bd.state]; rfl
  have N0 := Fr.nil n0
  show own_Ends p e below s (Q25a23 Z b2 cs b58a k58b i79 h0 n0) _ _ s₁ _
  rw [ef_rm25a23 m b2]
  obtain ⟨T80, h80, X80, e80, E80, A80, D80, -, st80⟩ := newO X0 hx hZ hown (ow150 hw) (ow10 hw) (ow9 hw) e0 (g := (mkF m 0 #[.val (.ref b2)] [])) rfl (hb hby d25_0) (by decide) (by decide)
  obtain ⟨b80, g_b80⟩ : ∃ z, z = h0.size := ⟨_, rfl⟩
  have sg_b80 : h0.size ≤ b80 := Nat.le_of_eq g_b80.symm
  rw [← g_b80] at A80 D80 st80
  have n_b80 : n0 ≤ b80 := Nat.le_trans Z0 (Nat.le_of_eq g_b80.symm)
  have sz_b80 : h0.size ≤ b80 := Nat.le_trans (Keep.refl h0 []).1 (Nat.le_of_eq g_b80.symm)
  have K80 : Keep h0 h80 [] := (Keep.refl h0 []).ext E80
  have F_value_b80 : Fld Z h80 b80 "java/lang/String" "value" "[B" .null := D80 (Or.inr (ow12 hw)) (ty := (.array .byte)) (by decide)
  have F_coder_b80 : Fld Z h80 b80 "java/lang/String" "coder" "B" (.int (0 : Int32)) := D80 (Or.inr (ow13 hw)) (ty := .byte) (by decide)
  refine own_go (T' := T80) (f' := (mkF m 5 #[.val (.ref b2)] [(.ref b2), (.ref b80), (.ref b80)])) (fun _ k => st80 _ (XS.dup X80.here hx rfl (hb hby d25_3) rfl rfl (XS.aloadN X80.here hx rfl (hb hby d25_4) rfl rfl k))) ?_
  obtain ⟨_, _, ⟨T99, L99, k99, n99⟩, -, X99, ⟨Lc99, hQ99, l99, y99, z99⟩, st99⟩ := X80.specialBack hx (y := mn29) rfl hown (mvT hZ (ow151 hw)) (mvT hZ (ow152 hw)) (mvT hZ (ow154 hw)) (by decide) (backOf (W := 1) (rm26a24 l Z a0 hw [] b80 b2 cs b58a k58b i79 h80 n0 (Nat.le_trans Z0 E80.1) (PS0.ext E80) (PE7.ext E80) (PF8.ext E80) (PF9.ext E80) (PF10.ext E80) (PV16.ext E80) A80 F_value_b80 F_coder_b80 PP0 (Nat.ne_of_lt (Nat.lt_of_lt_of_le PV16.lt sg_b80)) n_b80) hZ (ow154 hw) (ow9 hw) (by decide) (by decide)) (g := (mkF m 5 #[.val (.ref b2)] [(.ref b2), (.ref b80), (.ref b80)])) rfl (by rw [hml]; rfl) (Steps.refl _) (a := b80) (argsL := [(.ref b2)]) (rest := [(.ref b80)]) (lenOf pd24 rfl) rfl (by show 2 * 0 + _ ≤ _; exact Nat.le_of_eq rfl) (hb hby d25_5) (fun _ _ => ⟨rfl, e80, (by decide : 1 + 1 ≤ _), (by decide : 4 + 19 ≤ _)⟩)
  dsimp only [Pt.U, Pt.locs, Pt.cells, Pt.slots] at X99 l99 y99 z99 st99 hQ99
  subst l99 y99 z99
  obtain ⟨b99a, k99b, rfl, N99q, K99, n_b99a, sg_b99a, g99_0, g99_1, g99_2⟩ := hQ99
  have N99 := Fr.app N0 N99q
  have sz_b99a : h0.size ≤ b99a := Nat.le_trans K80.1 sg_b99a
  have eK99 : T99.heap = T99.heap := rfl
  have KK99 : Keep h0 T99.heap [] := Keep.trans K80 K99 (allS (Or.inr sz_b80) all0)
  refine own_go (T' := T99) (f' := (mkF m 8 #[.val (.ref b2)] [(.ref b80)])) (fun _ k => st99.trans k) ?_
  refine own_ret X99 (v := some (.ref b80)) (fun h => by rw [Bd.returns] at h; cases h) Bd.notSynchronized (fun fs hr => own_retA X99 hx Bd.returns rfl rfl (hb hby d25_8) hr) ?_ (by decide) (by decide)
  show Q25a23 Z b2 cs b58a k58b i79 h0 n0 _ T99.heap _
  rw [eK99]
  exact ⟨b80, b99a, k99b, rfl, N99, KK99, n_b80, sz_b80, n_b99a, sz_b99a, (Ne.symm (Nat.ne_of_lt (Nat.lt_of_lt_of_le A80.lt sg_b99a))), (A80.keep K99), g99_0, g99_1, g99_2⟩
theorem pd4 : parseMethodDescriptor "()Ljava/lang/String;" = some ⟨[], some (.object "java/lang/String")⟩ := by decide +kernel
theorem d4_0 : decode prog_5_method_4_code 0 = .ok (.iload_n 0, 1) := by decide +kernel
theorem d4_1 : decode prog_5_method_4_code 1 = .ok (.ifCond .ge 31, 3) := by decide +kernel
theorem d4_32 : decode prog_5_method_4_code 32 = .ok (.new 35, 3) := by decide +kernel
theorem d4_35 : decode prog_5_method_4_code 35 = .ok (.dup, 1) := by decide +kernel
theorem d4_36 : decode prog_5_method_4_code 36 = .ok (.iload_n 0, 1) := by decide +kernel
theorem d4_37 : decode prog_5_method_4_code 37 = .ok (.ldc2_w 46, 3) := by decide +kernel
theorem d4_40 : decode prog_5_method_4_code 40 = .ok (.new 13, 3) := by decide +kernel
theorem d4_43 : decode prog_5_method_4_code 43 = .ok (.dup, 1) := by decide +kernel
theorem d4_44 : decode prog_5_method_4_code 44 = .ok (.invokespecial 15, 3) := by decide +kernel
theorem d4_47 : decode prog_5_method_4_code 47 = .ok (.ldc 48, 2) := by decide +kernel
theorem d4_49 : decode prog_5_method_4_code 49 = .ok (.invokevirtual 18, 3) := by decide +kernel
theorem d4_52 : decode prog_5_method_4_code 52 = .ok (.iload_n 0, 1) := by decide +kernel
theorem d4_53 : decode prog_5_method_4_code 53 = .ok (.invokevirtual 22, 3) := by decide +kernel
theorem d4_56 : decode prog_5_method_4_code 56 = .ok (.invokevirtual 27, 3) := by decide +kernel
theorem d4_59 : decode prog_5_method_4_code 59 = .ok (.invokespecial 41, 3) := by decide +kernel
theorem d4_62 : decode prog_5_method_4_code 62 = .ok (.areturn, 1) := by decide +kernel
theorem ef_rm4 (m : MethodId)  : entryFrame m #[(.int (0 : Int32))] 1 = mkF m 0 #[.val (.int (0 : Int32))] [] := by first | (simp [entryFrame, mkF, argsToLocals, Value.category]; done) | rfl
def Q4 (Z : State) (B : State) (cs : Int32) (wd : Addr) (kd : ClassId) (vd : List Value) (h0 : Heap) (n0 : Nat) (v : Option Value) (h : Heap) (vm : Vm) (L : List Loc) : Prop := ∃ (c : Addr), v = some (.ref c) ∧ Fr n0 L ∧ Keep h0 h [] ∧ n0 ≤ c ∧ h0.size ≤ c ∧ Exa Z h c "com/example/tally_of_calls/tallyofcalls/Count" ∧ Fld Z h c "com/example/tally_of_calls/tallyofcalls/Count" "min" "I" (.int (0 : Int32)) ∧ Fld Z h c "com/example/tally_of_calls/tallyofcalls/Count" "max" "J" (.long (9223372036854775807 : Int64))
set_option maxRecDepth 65536 in
set_option maxHeartbeats 40000000 in
theorem rm4 (l : Launch) (Z : State) (a0 : Array Value) (hw : ∀ d ∈ tables_1, d.before a0 Z = true) (ws : List Jvm.Cond) (B : State) (cs : Int32) (wd : Addr) (kd : ClassId) (vd : List Value) (h0 : Heap) (n0 : Nat) (Z0 : n0 ≤ h0.size) (S_cs : Sta Z h0 "java/lang/String" "COMPACT_STRINGS" "Z" (.int cs)) (hcs : ¬ (cs = (0 : Int32))) (S_do : Sta Z h0 "java/lang/Integer" "DigitOnes" "[B" (.ref wd)) (V_do : Arv Z h0 wd kd .byte (100 : Int32) vd (.int (0 : Int32))) (hvd : own_Ints vd) (I0 : IB Z B.vm ["allowed any number"]) (hk0 : ∀ (b : Addr) (cl : Cell), Z.heap[b]? = some cl → h0[b]? = some cl) (hcw : Jvm.Lit.compactW.before a0 Z = true) (hhl : Jvm.Lit.constHeld Z "com/example/tally_of_calls/tallyofcalls/Counts" 48) (hn0 : n0 = h0.size) :
    MetFree l mn31 (head1 (Jvm.Cond.code mn31 prog_5_method_4_code 1 (some (.object "com/example/tally_of_calls/tallyofcalls/Count")) :: ws) ({ frames := 6, cells := 8, slots := 156, locals := 96 } : Room)) (fun a U => a = #[(.int (0 : Int32))] ∧ Z.Warmed39 U.vm ∧ B.WarmedH U.vm ∧ U.heap = h0) (fun _ _ _ _ _ => True) (fun _ U o U' => ∃ v L, o = .returned v ∧ Q4 Z B cs wd kd vd h0 n0 v U'.heap U'.vm L ∧ ReturnedEndW U o U' L ({ frames := 6, cells := 8, slots := 156, locals := 96 } : Room).cells ({ frames := 6, cells := 8, slots := 156, locals := 96 } : Room).slots) := by
  refine MetFree.of_bodySF (plainFor_of_name pn_1) hisR ?_
  intro p e s m args below meth c s₁ Bd hml0 hP hK
  obtain ⟨rfl, hZ, hB, hh⟩ := hP
  have hx := Bd.exec
  have hby := Bd.bytes
  have hml : c.maxLocals = 1 := hml0
  have hown : s.vm.findClass "com/example/tally_of_calls/tallyofcalls/Counts" = some m.cls := findClass_of_methodNamed Bd.named
  have hnm := (name_of_methodNamed Bd.named Bd.method).1
  have X0 : Stand p l e ({ frames := 6, cells := 8, slots := 156, locals := 96 } : Room) (s.setVm s.vm) m #[(.int (0 : Int32))] below meth c s₁ [] 0 0 := Stand.of_body Bd
  have e0 : s₁.heap = h0 := by rw [← hh, Bd.state]; rfl
  have N0 := Fr.nil n0
  have hS : s.Since s.vm h0.size := (State.WarmedH.refl s).since _
  show own_EndsW p e below s (Q4 Z B cs wd kd vd h0 n0) _ _ s₁ _
  rw [ef_rm4 m ]
  have I1 := own_ib I0 hB
  have hkeep : ∀ (b : Addr) (cl : Cell), Z.heap[b]? = some cl → s.heap[b]? = some cl := by rw [hh]; exact hk0
  refine own_goW (T' := s₁) (f' := (mkF m 32 #[.val (.int (0 : Int32))] [])) (fun _ k => XS.iloadN X0.here hx rfl (hb hby d4_0) rfl (XS.ifYes X0.here hx rfl (pc0 := 1) (pc' := 32) rfl (hb hby d4_1) rfl ((if0 _ _).trans (flt (by decide : ¬ ((0 : Int32) < (0 : Int32)))).2.1) (by decide) (by decide) k)) ?_
  obtain ⟨T1, h1, X1, e1, E1, A1, D1, -, st1⟩ := newO X0 hx hZ hown (ow4 hw) (ow5 hw) (ow6 hw) e0 (g := (mkF m 32 #[.val (.int (0 : Int32))] [])) rfl (hb hby d4_32) (by decide) (by decide)
  obtain ⟨b1, g_b1⟩ : ∃ z, z = h0.size := ⟨_, rfl⟩
  have sg_b1 : h0.size ≤ b1 := Nat.le_of_eq g_b1.symm
  rw [← g_b1] at A1 D1 st1
  have n_b1 : n0 ≤ b1 := Nat.le_trans Z0 (Nat.le_of_eq g_b1.symm)
  have sz_b1 : h0.size ≤ b1 := Nat.le_trans (Keep.refl h0 []).1 (Nat.le_of_eq g_b1.symm)
  have K1 : Keep h0 h1 [] := (Keep.refl h0 []).ext E1
  have F_min_b1 : Fld Z h1 b1 "com/example/tally_of_calls/tallyofcalls/Count" "min" "I" (.int (0 : Int32)) := D1 (Or.inr (ow23 hw)) (ty := .int) (by decide)
  have F_max_b1 : Fld Z h1 b1 "com/example/tally_of_calls/tallyofcalls/Count" "max" "J" (.long (0 : Int64)) := D1 (Or.inr (ow25 hw)) (ty := .long) (by decide)
  have F_phrase_b1 : Fld Z h1 b1 "com/example/tally_of_calls/tallyofcalls/Count" "phrase" "Ljava/lang/String;" .null := D1 (Or.inr (ow27 hw)) (ty := (.object "java/lang/String")) (by decide)
  refine own_goW (T' := T1) (f' := (mkF m 40 #[.val (.int (0 : Int32))] [(.long (9223372036854775807 : Int64)), (.int (0 : Int32)), (.ref b1), (.ref b1)])) (fun _ k => st1 _ (XS.dup X1.here hx rfl (hb hby d4_35) rfl rfl (XS.iloadN X1.here hx rfl (hb hby d4_36) rfl (X1.ldc2Long hx hown (mvT hZ (ow7 hw)) (g := (mkF m 37 #[.val (.int (0 : Int32))] [(.int (0 : Int32)), (.ref b1), (.ref b1)])) rfl (hb hby d4_37) _ k)))) ?_
  obtain ⟨T2, h2, X2, e2, E2, A2, D2, -, st2⟩ := newO X1 hx hZ hown (ow31 hw) (ow32 hw) (ow33 hw) e1 (g := (mkF m 40 #[.val (.int (0 : Int32))] [(.long (9223372036854775807 : Int64)), (.int (0 : Int32)), (.ref b1), (.ref b1)])) rfl (hb hby d4_40) (by decide) (by decide)
  obtain ⟨b2, g_b2⟩ : ∃ z, z = h1.size := ⟨_, rfl⟩
  have sg_b2 : h1.size ≤ b2 := Nat.le_of_eq g_b2.symm
  rw [← g_b2] at A2 D2 st2
  have n_b2 : n0 ≤ b2 := Nat.le_trans (Nat.le_trans Z0 E1.1) (Nat.le_of_eq g_b2.symm)
  have sz_b2 : h0.size ≤ b2 := Nat.le_trans K1.1 (Nat.le_of_eq g_b2.symm)
  have K2 : Keep h0 h2 [] := K1.ext E2
  have F_value_b2 : Fld Z h2 b2 "java/lang/AbstractStringBuilder" "value" "[B" .null := D2 (Or.inl (ow46 hw)) (ty := (.array .byte)) (by decide)
  have F_coder_b2 : Fld Z h2 b2 "java/lang/AbstractStringBuilder" "coder" "B" (.int (0 : Int32)) := D2 (Or.inl (ow48 hw)) (ty := .byte) (by decide)
  have F_count_b2 : Fld Z h2 b2 "java/lang/AbstractStringBuilder" "count" "I" (.int (0 : Int32)) := D2 (Or.inl (ow74 hw)) (ty := .int) (by decide)
  refine own_goW (T' := T2) (f' := (mkF m 44 #[.val (.int (0 : Int32))] [(.ref b2), (.ref b2), (.long (9223372036854775807 : Int64)), (.int (0 : Int32)), (.ref b1), (.ref b1)])) (fun _ k => st2 _ (XS.dup X2.here hx rfl (hb hby d4_43) rfl rfl k)) ?_
  obtain ⟨_, _, ⟨T13, L13, k13, n13⟩, -, X13, ⟨Lc13, hQ13, l13, y13, z13⟩, st13⟩ := X2.specialBack hx (y := mn3) rfl hown (mvT hZ (ow34 hw)) (mvT hZ (ow35 hw)) (mvT hZ (ow36 hw)) (by decide) (backOf (W := 6) (rm5a2 l Z a0 hw [] b2 cs h2 n0 (Nat.le_trans (Nat.le_trans Z0 E1.1) E2.1) ((S_cs.ext E1).ext E2) A2 F_value_b2 F_coder_b2 F_count_b2 hcs n_b2) hZ (ow36 hw) (ow33 hw) (by decide) (by decide)) (g := (mkF m 44 #[.val (.int (0 : Int32))] [(.ref b2), (.ref b2), (.long (9223372036854775807 : Int64)), (.int (0 : Int32)), (.ref b1), (.ref b1)])) rfl (by rw [hml]; rfl) (Steps.refl _) (a := b2) (argsL := []) (rest := [(.ref b2), (.long (9223372036854775807 : Int64)), (.int (0 : Int32)), (.ref b1), (.ref b1)]) (lenOf pd5 rfl) rfl (by show 2 * 0 + _ ≤ _; exact Nat.le_of_eq rfl) (hb hby d4_44) (fun _ _ => ⟨rfl, e2, (by decide : 2 + 1 ≤ _), (by decide : 7 + 16 ≤ _)⟩)
  dsimp only [Pt.U, Pt.locs, Pt.cells, Pt.slots] at X13 l13 y13 z13 st13 hQ13
  subst l13 y13 z13
  obtain ⟨b13a, k13b, rfl, N13q, K13, n_b13a, sg_b13a, g13_0, g13_1, g13_2, g13_3⟩ := hQ13
  have N13 := Fr.app N0 N13q
  have sz_b13a : h0.size ≤ b13a := Nat.le_trans K2.1 sg_b13a
  have eK13 : T13.heap = T13.heap := rfl
  have KK13 : Keep h0 T13.heap [] := Keep.trans K2 K13 (allS (Or.inr sz_b2) all0)
  refine own_goW (T' := T13) (f' := (mkF m 47 #[.val (.int (0 : Int32))] [(.ref b2), (.long (9223372036854775807 : Int64)), (.int (0 : Int32)), (.ref b1), (.ref b1)])) (fun _ k => st13.trans k) ?_
  obtain ⟨a14, T14, h14, k1_14, b14, kc14, X14, e14, E14, hS14, hk14, -, -, gE14, gC14, gV14, gA14, -, -, IB14, Lt14, st14⟩ := ldcSVL (Z := Z) (s := (s.setVm s.vm)) (vm0 := s.vm) X13 hx hZ hown (ow49 hw) (own_wS hw) eK13 ((State.WarmedH.refl (s.setVm s.vm)).since 0) (Nat.zero_le _) (by show Fr s.heap.size _; rw [hh, ← hn0]; exact N13) hkeep I1 (by decide) hhl hcw (vs := own_lit1) (z := (18 : Int32)) own_lit1_ok (by decide) own_lit1_len (g := (mkF m 47 #[.val (.int (0 : Int32))] [(.ref b2), (.long (9223372036854775807 : Int64)), (.int (0 : Int32)), (.ref b1), (.ref b1)])) rfl (hb hby d4_47) (n := 72) (by decide) (by decide) (by decide) (by decide)
  have hM14 := own_sm hS14 hk14
  obtain ⟨X14, hS, hZ, hown⟩ := rebS hS (Nat.le_trans (Nat.le_trans (Nat.le_trans (Nat.le_refl _) E1.1) E2.1) K13.1) X14 hM14 E14.1 hZ hown
  have K14 : Keep h0 h14 [] := KK13.ext E14
  refine own_goW (T' := T14) (f' := (mkF m 49 #[.val (.int (0 : Int32))] [(.ref a14), (.ref b2), (.long (9223372036854775807 : Int64)), (.int (0 : Int32)), (.ref b1), (.ref b1)])) (fun _ k => st14 _ k) ?_
  obtain ⟨cq58, kq58, q58a, q58b, q58c⟩ := isOf hZ e14 ((A2.keep K13).ext E14)
  obtain ⟨_, _, ⟨T58, L58, k58, n58⟩, -, X58, ⟨Lc58, hQ58, l58, y58, z58⟩, st58⟩ := X14.virtualBack hx (y := mn16) (z := mn16) hown (mvT hZ (ow50 hw)) (mvT hZ (ow51 hw)) (notFace_of_selects (args := #[]) (mvT hZ (ow53 hw))) (mvT hZ (ow53 hw)) (mvT hZ (ow52 hw)) (by decide) (backOf (W := 5) (rm7a4 l Z a0 hw [] b2 a14 cs b13a k13b b14 kc14 h14 n0 (Nat.le_trans (Nat.le_trans (Nat.le_trans (Nat.le_trans Z0 E1.1) E2.1) K13.1) E14.1) ((own_sta_keep ((S_cs.ext E1).ext E2) K13 (own_wsE A2 own_ws0)).ext E14) ((A2.keep K13).ext E14) (g13_0.ext E14) (g13_1.ext E14) (g13_2.ext E14) (g13_3.ext E14) gE14 gC14 gV14 gA14 hcs (own_exa_ne gE14 ((A2.keep K13).ext E14) (by decide)) (Ne.symm (Exa.neArv ((A2.keep K13).ext E14) gA14 (ow32 hw))) n_b2) hZ (ow54 hw) (ow33 hw) (by decide) (by decide)) q58a q58c (g := (mkF m 49 #[.val (.int (0 : Int32))] [(.ref a14), (.ref b2), (.long (9223372036854775807 : Int64)), (.int (0 : Int32)), (.ref b1), (.ref b1)])) rfl (by rw [hml]; rfl) (Steps.refl _) (argsL := [(.ref a14)]) (rest := [(.long (9223372036854775807 : Int64)), (.int (0 : Int32)), (.ref b1), (.ref b1)]) (lenOf pd22 rfl) rfl (by show 2 * 0 + _ ≤ _; exact Nat.le_of_eq rfl) (hb hby d4_49) (fun _ _ => ⟨rfl, e14, (by decide : 5 + 1 ≤ _), (by decide : 99 + 34 ≤ _)⟩)
  dsimp only [Pt.U, Pt.locs, Pt.cells, Pt.slots] at X58 l58 y58 z58 st58 hQ58
  subst l58 y58 z58
  obtain ⟨b58a, k58b, rfl, N58q, K58, n_b58a, sg_b58a, g58_0, g58_1, g58_2, g58_3⟩ := hQ58
  have N58 := Fr.app N13 N58q
  have sz_b58a : h0.size ≤ b58a := Nat.le_trans K14.1 sg_b58a
  have eK58 : T58.heap = T58.heap := rfl
  have KK58 : Keep h0 T58.heap [] := Keep.trans K14 K58 (allS (Or.inr sz_b2) all0)
  refine own_goW (T' := T58) (f' := (mkF m 53 #[.val (.int (0 : Int32))] [(.int (0 : Int32)), (.ref b2), (.long (9223372036854775807 : Int64)), (.int (0 : Int32)), (.ref b1), (.ref b1)])) (fun _ k => st58.trans (XS.iloadN X58.here hx rfl (hb hby d4_52) rfl k)) ?_
  have G76 := (own_sta_keep ((own_sta_keep ((S_cs.ext E1).ext E2) K13 (own_wsE A2 own_ws0)).ext E14) K58 (own_wsE ((A2.keep K13).ext E14) own_ws0))
  have G77 := (own_sta_keep ((own_sta_keep ((S_do.ext E1).ext E2) K13 (own_wsE A2 own_ws0)).ext E14) K58 (own_wsE ((A2.keep K13).ext E14) own_ws0))
  have G78 := (((((V_do.ext E1).ext E2).keep K13 (ninS (Nat.ne_of_lt (Nat.lt_of_lt_of_le (Nat.lt_of_lt_of_le V_do.lt E1.1) sg_b2)) nin0)).ext E14).keep K58 (ninS (Nat.ne_of_lt (Nat.lt_of_lt_of_le (Nat.lt_of_lt_of_le V_do.lt E1.1) sg_b2)) nin0))
  obtain ⟨cq75, kq75, q75a, q75b, q75c⟩ := isOf hZ eK58 (((A2.keep K13).ext E14).keep K58)
  obtain ⟨_, _, ⟨T75, L75, k75, n75⟩, -, X75, ⟨Lc75, hQ75, l75, y75, z75⟩, st75⟩ := X58.virtualBack hx (y := mn21) (z := mn21) hown (mvT hZ (ow123 hw)) (mvT hZ (ow124 hw)) (notFace_of_selects (args := #[]) (mvT hZ (ow126 hw))) (mvT hZ (ow126 hw)) (mvT hZ (ow125 hw)) (by decide) (backOf (W := 5) (rm20a17 l Z a0 hw [] b2 cs wd kd vd b58a k58b T58.heap n0 (Nat.le_trans (Nat.le_trans (Nat.le_trans (Nat.le_trans (Nat.le_trans Z0 E1.1) E2.1) K13.1) E14.1) K58.1) G76 G77 G78 (((A2.keep K13).ext E14).keep K58) g58_0 g58_1 g58_2 g58_3 hcs hvd (Nat.ne_of_lt (Nat.lt_of_lt_of_le (Nat.lt_of_lt_of_le (Nat.lt_of_lt_of_le A2.lt K13.1) E14.1) sg_b58a)) (Ne.symm (Nat.ne_of_lt (Nat.lt_of_lt_of_le (Nat.lt_of_lt_of_le (Nat.lt_of_lt_of_le A2.lt K13.1) E14.1) sg_b58a))) n_b2 n_b58a) hZ (ow127 hw) (ow33 hw) (by decide) (by decide)) q75a q75c (g := (mkF m 53 #[.val (.int (0 : Int32))] [(.int (0 : Int32)), (.ref b2), (.long (9223372036854775807 : Int64)), (.int (0 : Int32)), (.ref b1), (.ref b1)])) rfl (by rw [hml]; rfl) (Steps.refl _) (argsL := [(.int (0 : Int32))]) (rest := [(.long (9223372036854775807 : Int64)), (.int (0 : Int32)), (.ref b1), (.ref b1)]) (lenOf pd11 rfl) rfl (by show 2 * 0 + _ ≤ _; exact Nat.le_of_eq rfl) (hb hby d4_53) (fun _ _ => ⟨rfl, eK58, (by decide : 6 + 0 ≤ _), (by decide : 133 + 0 ≤ _)⟩)
  dsimp only [Pt.U, Pt.locs, Pt.cells, Pt.slots] at X75 l75 y75 z75 st75 hQ75
  subst l75 y75 z75
  obtain ⟨rfl, N75q, K75, g75_0, g75_1, g75_2, g75_3⟩ := hQ75
  have N75 := Fr.app N58 N75q
  have eK75 : T75.heap = T75.heap := rfl
  have KK75 : Keep h0 T75.heap [] := Keep.trans KK58 K75 (allS (Or.inr sz_b2) (allS (Or.inr sz_b58a) all0))
  refine own_goW (T' := T75) (f' := (mkF m 56 #[.val (.int (0 : Int32))] [(.ref b2), (.long (9223372036854775807 : Int64)), (.int (0 : Int32)), (.ref b1), (.ref b1)])) (fun _ k => st75.trans k) ?_
  have Zs101 : n0 ≤ T75.heap.size := (Nat.le_trans (Nat.le_trans (Nat.le_trans (Nat.le_trans (Nat.le_trans (Nat.le_trans Z0 E1.1) E2.1) K13.1) E14.1) K58.1) K75.1)
  obtain ⟨cq100, kq100, q100a, q100b, q100c⟩ := isOf hZ eK75 ((((A2.keep K13).ext E14).keep K58).keep K75)
  obtain ⟨_, _, ⟨T100, L100, k100, n100⟩, -, X100, ⟨Lc100, hQ100, l100, y100, z100⟩, st100⟩ := X75.virtualBack hx (y := mn30) (z := mn30) hown (mvT hZ (ow145 hw)) (mvT hZ (ow146 hw)) (notFace_of_selects (args := #[]) (mvT hZ (ow148 hw))) (mvT hZ (ow148 hw)) (mvT hZ (ow147 hw)) (by decide) (backOf (W := 5) (rm25a23 l Z a0 hw [] b2 cs b58a k58b (nar .byte (own_el vd (0 : Int32))) T75.heap n0 Zs101 (own_sta_keep G76 K75 (own_wsE (((A2.keep K13).ext E14).keep K58) (own_wsV g58_3 own_ws0))) ((((A2.keep K13).ext E14).keep K58).keep K75) g75_0 g75_1 g75_2 g75_3 hcs) hZ (ow149 hw) (ow33 hw) (by decide) (by decide)) q100a q100c (g := (mkF m 56 #[.val (.int (0 : Int32))] [(.ref b2), (.long (9223372036854775807 : Int64)), (.int (0 : Int32)), (.ref b1), (.ref b1)])) rfl (by rw [hml]; rfl) (Steps.refl _) (argsL := []) (rest := [(.long (9223372036854775807 : Int64)), (.int (0 : Int32)), (.ref b1), (.ref b1)]) (lenOf pd4 rfl) rfl (by show 2 * 0 + _ ≤ _; exact Nat.le_of_eq rfl) (hb hby d4_56) (fun _ _ => ⟨rfl, eK75, (by decide : 6 + 2 ≤ _), (by decide : 133 + 23 ≤ _)⟩)
  dsimp only [Pt.U, Pt.locs, Pt.cells, Pt.slots] at X100 l100 y100 z100 st100 hQ100
  subst l100 y100 z100
  obtain ⟨b100a, b100b, k100c, rfl, N100q, K100, n_b100a, sg_b100a, n_b100b, sg_b100b, ne100_0, g100_0, g100_1, g100_2, g100_3⟩ := hQ100
  have N100 := Fr.app N75 N100q
  have sz_b100a : h0.size ≤ b100a := Nat.le_trans KK75.1 sg_b100a
  have sz_b100b : h0.size ≤ b100b := Nat.le_trans KK75.1 sg_b100b
  have eK100 : T100.heap = T100.heap := rfl
  have KK100 : Keep h0 T100.heap [] := Keep.trans KK75 K100 all0
  refine own_goW (T' := T100) (f' := (mkF m 59 #[.val (.int (0 : Int32))] [(.ref b100a), (.long (9223372036854775807 : Int64)), (.int (0 : Int32)), (.ref b1), (.ref b1)])) (fun _ k => st100.trans k) ?_
  have G103 := ((((((F_min_b1.ext E2).keep K13 (ninS (Nat.ne_of_lt (Nat.lt_of_lt_of_le A1.lt sg_b2)) nin0)).ext E14).keep K58 (ninS (Nat.ne_of_lt (Nat.lt_of_lt_of_le A1.lt sg_b2)) nin0)).keep K75 (ninS (Nat.ne_of_lt (Nat.lt_of_lt_of_le A1.lt sg_b2)) (ninS (Nat.ne_of_lt (Nat.lt_of_lt_of_le (Nat.lt_of_lt_of_le (Nat.lt_of_lt_of_le (Nat.lt_of_lt_of_le A1.lt E2.1) K13.1) E14.1) sg_b58a)) nin0))).keep K100 nin0)
  have G104 := ((((((F_max_b1.ext E2).keep K13 (ninS (Nat.ne_of_lt (Nat.lt_of_lt_of_le A1.lt sg_b2)) nin0)).ext E14).keep K58 (ninS (Nat.ne_of_lt (Nat.lt_of_lt_of_le A1.lt sg_b2)) nin0)).keep K75 (ninS (Nat.ne_of_lt (Nat.lt_of_lt_of_le A1.lt sg_b2)) (ninS (Nat.ne_of_lt (Nat.lt_of_lt_of_le (Nat.lt_of_lt_of_le (Nat.lt_of_lt_of_le (Nat.lt_of_lt_of_le A1.lt E2.1) K13.1) E14.1) sg_b58a)) nin0))).keep K100 nin0)
  have G105 := ((((((F_phrase_b1.ext E2).keep K13 (ninS (Nat.ne_of_lt (Nat.lt_of_lt_of_le A1.lt sg_b2)) nin0)).ext E14).keep K58 (ninS (Nat.ne_of_lt (Nat.lt_of_lt_of_le A1.lt sg_b2)) nin0)).keep K75 (ninS (Nat.ne_of_lt (Nat.lt_of_lt_of_le A1.lt sg_b2)) (ninS (Nat.ne_of_lt (Nat.lt_of_lt_of_le (Nat.lt_of_lt_of_le (Nat.lt_of_lt_of_le (Nat.lt_of_lt_of_le A1.lt E2.1) K13.1) E14.1) sg_b58a)) nin0))).keep K100 nin0)
  obtain ⟨_, _, ⟨T102, L102, k102, n102⟩, -, X102, ⟨Lc102, hQ102, l102, y102, z102⟩, st102⟩ := X100.specialBack hx (y := mn0) rfl hown (mvT hZ (ow16 hw)) (mvT hZ (ow17 hw)) (mvT hZ (ow18 hw)) (by decide) (backOf (W := 1) (rm2a1 l Z a0 hw [] b1 b100a T100.heap n0 (Nat.le_trans Zs101 K100.1) ((((((A1.ext E2).keep K13).ext E14).keep K58).keep K75).keep K100) G103 G104 G105 n_b1) hZ (ow18 hw) (ow6 hw) (by decide) (by decide)) (g := (mkF m 59 #[.val (.int (0 : Int32))] [(.ref b100a), (.long (9223372036854775807 : Int64)), (.int (0 : Int32)), (.ref b1), (.ref b1)])) rfl (by rw [hml]; rfl) (Steps.refl _) (a := b1) (argsL := [(.int (0 : Int32)), (.long (9223372036854775807 : Int64)), (.ref b100a)]) (rest := [(.ref b1)]) (lenOf pd17 rfl) rfl (by show 2 * 0 + _ ≤ _; exact Nat.le_of_eq rfl) (hb hby d4_59) (fun _ _ => ⟨rfl, eK100, (by decide : 8 + 0 ≤ _), (by decide : 156 + 0 ≤ _)⟩)
  dsimp only [Pt.U, Pt.locs, Pt.cells, Pt.slots] at X102 l102 y102 z102 st102 hQ102
  subst l102 y102 z102
  obtain ⟨rfl, N102q, K102, g102_0, g102_1, g102_2⟩ := hQ102
  have N102 := Fr.app N100 N102q
  have eK102 : T102.heap = T102.heap := rfl
  have KK102 : Keep h0 T102.heap [] := Keep.trans KK100 K102 (allS (Or.inr sz_b1) all0)
  refine own_goW (T' := T102) (f' := (mkF m 62 #[.val (.int (0 : Int32))] [(.ref b1)])) (fun _ k => st102.trans k) ?_
  refine own_retW X102 hS (by rw [eK102]; exact (Nat.le_trans (Nat.le_trans (Nat.le_trans (Nat.le_trans (Nat.le_refl _) K58.1) K75.1) K100.1) K102.1)) (v := some (.ref b1)) (fun h => by rw [Bd.returns] at h; cases h) Bd.notSynchronized (fun fs hr => own_retA X102 hx Bd.returns rfl rfl (hb hby d4_62) hr) ?_ (by decide) (by decide)
  show Q4 Z B cs wd kd vd h0 n0 _ T102.heap T102.vm _
  rw [eK102]
  exact ⟨b1, rfl, N102, KK102, n_b1, sz_b1, (((((((A1.ext E2).keep K13).ext E14).keep K58).keep K75).keep K100).keep K102), g102_0, g102_1⟩
theorem own_land (x : Int64) : ¬ (x &&& (9223372036854775807 : Int64)) < (0 : Int64) := by
  intro h
  rw [Int64.lt_iff_toInt_lt] at h
  have e0 : (0 : Int64).toInt = 0 := rfl
  have e : (x &&& (9223372036854775807 : Int64)).toInt = (x.toBitVec &&& (9223372036854775807 : BitVec 64)).toInt := rfl
  rw [e0, e, BitVec.toInt_eq_toNat_cond] at h
  have h1 : (x.toBitVec &&& (9223372036854775807 : BitVec 64)).toNat ≤ 9223372036854775807 := by rw [BitVec.toNat_and]; exact Nat.and_le_right
  split at h <;> omega
theorem own_max (x : Int64) : ¬ (9223372036854775807 : Int64) < x := by
  intro h
  rw [Int64.lt_iff_toInt_lt] at h
  have e0 : (9223372036854775807 : Int64).toInt = 9223372036854775807 := rfl
  have := Int64.toInt_lt x
  omega
theorem pd3 : parseMethodDescriptor "()Lcom/example/tally_of_calls/tallyofcalls/Count;" = some ⟨[], some (.object "com/example/tally_of_calls/tallyofcalls/Count")⟩ := by decide +kernel
theorem pd9 : parseMethodDescriptor "(I)Lcom/example/tally_of_calls/tallyofcalls/Count;" = some ⟨[.int], some (.object "com/example/tally_of_calls/tallyofcalls/Count")⟩ := by decide +kernel
theorem d34_0 : decode prog_4_method_2_code 0 = .ok (.aload_n 0, 1) := by decide +kernel
theorem d34_1 : decode prog_4_method_2_code 1 = .ok (.getfield 9, 3) := by decide +kernel
theorem d34_4 : decode prog_4_method_2_code 4 = .ok (.ireturn, 1) := by decide +kernel
theorem ef_rm34a33 (m : MethodId) (c1 : Addr) : entryFrame m #[(.ref c1)] 1 = mkF m 0 #[.val (.ref c1)] [] := by first | (simp [entryFrame, mkF, argsToLocals, Value.category]; done) | rfl
def Q34a33 (Z : State) (c1 : Addr) (h0 : Heap) (n0 : Nat) (v : Option Value) (h : Heap) (L : List Loc) : Prop := v = some (.int (0 : Int32)) ∧ Fr n0 L ∧ h = h0
set_option maxRecDepth 65536 in
set_option maxHeartbeats 40000000 in
theorem rm34a33 (l : Launch) (Z : State) (a0 : Array Value) (hw : ∀ d ∈ tables_1, d.before a0 Z = true) (ws : List Jvm.Cond) (c1 : Addr) (h0 : Heap) (n0 : Nat) (Z0 : n0 ≤ h0.size) (PF4 : Fld Z h0 c1 "com/example/tally_of_calls/tallyofcalls/Count" "min" "I" (.int (0 : Int32))) :
    MetFree l mn32 (head1 (Jvm.Cond.code mn32 prog_4_method_2_code 1 (some .int) :: ws) ({ frames := 0, cells := 0, slots := 0, locals := 0 } : Room)) (fun a U => a = #[(.ref c1)] ∧ Z.Warmed39 U.vm ∧ U.heap = h0) (fun _ _ _ _ _ => True) (fun _ U o U' => ∃ v L, o = .returned v ∧ Q34a33 Z c1 h0 n0 v U'.heap L ∧ FrameEnd U o U' L ({ frames := 0, cells := 0, slots := 0, locals := 0 } : Room).cells ({ frames := 0, cells := 0, slots := 0, locals := 0 } : Room).slots) := by
  refine MetFree.of_bodySF (plainFor_of_name pn_0) hisR ?_
  intro p e s m args below meth c s₁ Bd hml0 hP hK
  obtain ⟨rfl, hZ, hh⟩ := hP
  have hx := Bd.exec
  have hby := Bd.bytes
  have hml : c.maxLocals = 1 := hml0
  have hown : s.vm.findClass "com/example/tally_of_calls/tallyofcalls/Count" = some m.cls := findClass_of_methodNamed Bd.named
  have hnm := (name_of_methodNamed Bd.named Bd.method).1
  have X0 : Stand p l e ({ frames := 0, cells := 0, slots := 0, locals := 0 } : Room) s m #[(.ref c1)] below meth c s₁ [] 0 0 := Stand.of_body Bd
  have e0 : s₁.heap = h0 := by rw [← hh, Bd.state]; rfl
  have N0 := Fr.nil n0
  show own_Ends p e below s (Q34a33 Z c1 h0 n0) _ _ s₁ _
  rw [ef_rm34a33 m c1]
  refine own_go (T' := s₁) (f' := (mkF m 1 #[.val (.ref c1)] [(.ref c1)])) (fun _ k => XS.aloadN X0.here hx rfl (hb hby d34_0) rfl rfl k) ?_
  obtain ⟨T3, X3, e3, st3⟩ := getF X0 hx hZ hown (host := "") (Or.inl (ow22 hw)) Via.refl e0 PF4 (g := (mkF m 1 #[.val (.ref c1)] [(.ref c1)])) rfl rfl (hb hby d34_1)
  refine own_go (T' := T3) (f' := (mkF m 4 #[.val (.ref c1)] [(.int (0 : Int32))])) (fun _ k => st3 _ k) ?_
  refine own_ret X3 (v := some (.int (0 : Int32))) (fun h => by rw [Bd.returns] at h; cases h) Bd.notSynchronized (fun fs hr => retI X3 hx Bd.returns (hb hby d34_4) hr) ?_ (by decide) (by decide)
  show Q34a33 Z c1 h0 n0 _ T3.heap _
  exact ⟨rfl, N0, e3⟩
theorem d35_0 : decode prog_4_method_3_code 0 = .ok (.aload_n 0, 1) := by decide +kernel
theorem d35_1 : decode prog_4_method_3_code 1 = .ok (.getfield 15, 3) := by decide +kernel
theorem d35_4 : decode prog_4_method_3_code 4 = .ok (.lreturn, 1) := by decide +kernel
theorem ef_rm35a34 (m : MethodId) (c1 : Addr) : entryFrame m #[(.ref c1)] 1 = mkF m 0 #[.val (.ref c1)] [] := by first | (simp [entryFrame, mkF, argsToLocals, Value.category]; done) | rfl
def Q35a34 (Z : State) (c1 : Addr) (h0 : Heap) (n0 : Nat) (v : Option Value) (h : Heap) (L : List Loc) : Prop := v = some (.long (9223372036854775807 : Int64)) ∧ Fr n0 L ∧ h = h0
set_option maxRecDepth 65536 in
set_option maxHeartbeats 40000000 in
theorem rm35a34 (l : Launch) (Z : State) (a0 : Array Value) (hw : ∀ d ∈ tables_1, d.before a0 Z = true) (ws : List Jvm.Cond) (c1 : Addr) (h0 : Heap) (n0 : Nat) (Z0 : n0 ≤ h0.size) (PF5 : Fld Z h0 c1 "com/example/tally_of_calls/tallyofcalls/Count" "max" "J" (.long (9223372036854775807 : Int64))) :
    MetFree l mn33 (head1 (Jvm.Cond.code mn33 prog_4_method_3_code 1 (some .long) :: ws) ({ frames := 0, cells := 0, slots := 0, locals := 0 } : Room)) (fun a U => a = #[(.ref c1)] ∧ Z.Warmed39 U.vm ∧ U.heap = h0) (fun _ _ _ _ _ => True) (fun _ U o U' => ∃ v L, o = .returned v ∧ Q35a34 Z c1 h0 n0 v U'.heap L ∧ FrameEnd U o U' L ({ frames := 0, cells := 0, slots := 0, locals := 0 } : Room).cells ({ frames := 0, cells := 0, slots := 0, locals := 0 } : Room).slots) := by
  refine MetFree.of_bodySF (plainFor_of_name pn_0) hisR ?_
  intro p e s m args below meth c s₁ Bd hml0 hP hK
  obtain ⟨rfl, hZ, hh⟩ := hP
  have hx := Bd.exec
  have hby := Bd.bytes
  have hml : c.maxLocals = 1 := hml0
  have hown : s.vm.findClass "com/example/tally_of_calls/tallyofcalls/Count" = some m.cls := findClass_of_methodNamed Bd.named
  have hnm := (name_of_methodNamed Bd.named Bd.method).1
  have X0 : Stand p l e ({ frames := 0, cells := 0, slots := 0, locals := 0 } : Room) s m #[(.ref c1)] below meth c s₁ [] 0 0 := Stand.of_body Bd
  have e0 : s₁.heap = h0 := by rw [← hh, Bd.state]; rfl
  have N0 := Fr.nil n0
  show own_Ends p e below s (Q35a34 Z c1 h0 n0) _ _ s₁ _
  rw [ef_rm35a34 m c1]
  refine own_go (T' := s₁) (f' := (mkF m 1 #[.val (.ref c1)] [(.ref c1)])) (fun _ k => XS.aloadN X0.here hx rfl (hb hby d35_0) rfl rfl k) ?_
  obtain ⟨T5, X5, e5, st5⟩ := getF X0 hx hZ hown (host := "") (Or.inl (ow24 hw)) Via.refl e0 PF5 (g := (mkF m 1 #[.val (.ref c1)] [(.ref c1)])) rfl rfl (hb hby d35_1)
  refine own_go (T' := T5) (f' := (mkF m 4 #[.val (.ref c1)] [(.long (9223372036854775807 : Int64))])) (fun _ k => st5 _ k) ?_
  refine own_ret X5 (v := some (.long (9223372036854775807 : Int64))) (fun h => by rw [Bd.returns] at h; cases h) Bd.notSynchronized (fun fs hr => own_retL X5 hx Bd.returns (hb hby d35_4) hr) ?_ (by decide) (by decide)
  show Q35a34 Z c1 h0 n0 _ T5.heap _
  exact ⟨rfl, N0, e5⟩
theorem pd2 : parseMethodDescriptor "()J" = some ⟨[], some .long⟩ := by decide +kernel
theorem d36_0 : decode prog_4_method_4_code 0 = .ok (.aload_n 0, 1) := by decide +kernel
theorem d36_1 : decode prog_4_method_4_code 1 = .ok (.getfield 19, 3) := by decide +kernel
theorem d36_4 : decode prog_4_method_4_code 4 = .ok (.areturn, 1) := by decide +kernel
theorem ef_rm36a35 (m : MethodId) (c1 : Addr) : entryFrame m #[(.ref c1)] 1 = mkF m 0 #[.val (.ref c1)] [] := by first | (simp [entryFrame, mkF, argsToLocals, Value.category]; done) | rfl
def Q36a35 (Z : State) (c1 : Addr) (a1 : Addr) (h0 : Heap) (n0 : Nat) (v : Option Value) (h : Heap) (L : List Loc) : Prop := v = some (.ref a1) ∧ Fr n0 L ∧ h = h0
set_option maxRecDepth 65536 in
set_option maxHeartbeats 40000000 in
theorem rm36a35 (l : Launch) (Z : State) (a0 : Array Value) (hw : ∀ d ∈ tables_1, d.before a0 Z = true) (ws : List Jvm.Cond) (c1 : Addr) (a1 : Addr) (h0 : Heap) (n0 : Nat) (Z0 : n0 ≤ h0.size) (PF6 : Fld Z h0 c1 "com/example/tally_of_calls/tallyofcalls/Count" "phrase" "Ljava/lang/String;" (.ref a1)) :
    MetFree l mn34 (head1 (Jvm.Cond.code mn34 prog_4_method_4_code 1 (some (.object "java/lang/String")) :: ws) ({ frames := 0, cells := 0, slots := 0, locals := 0 } : Room)) (fun a U => a = #[(.ref c1)] ∧ Z.Warmed39 U.vm ∧ U.heap = h0) (fun _ _ _ _ _ => True) (fun _ U o U' => ∃ v L, o = .returned v ∧ Q36a35 Z c1 a1 h0 n0 v U'.heap L ∧ FrameEnd U o U' L ({ frames := 0, cells := 0, slots := 0, locals := 0 } : Room).cells ({ frames := 0, cells := 0, slots := 0, locals := 0 } : Room).slots) := by
  refine MetFree.of_bodySF (plainFor_of_name pn_0) hisR ?_
  intro p e s m args below meth c s₁ Bd hml0 hP hK
  obtain ⟨rfl, hZ, hh⟩ := hP
  have hx := Bd.exec
  have hby := Bd.bytes
  have hml : c.maxLocals = 1 := hml0
  have hown : s.vm.findClass "com/example/tally_of_calls/tallyofcalls/Count" = some m.cls := findClass_of_methodNamed Bd.named
  have hnm := (name_of_methodNamed Bd.named Bd.method).1
  have X0 : Stand p l e ({ frames := 0, cells := 0, slots := 0, locals := 0 } : Room) s m #[(.ref c1)] below meth c s₁ [] 0 0 := Stand.of_body Bd
  have e0 : s₁.heap = h0 := by rw [← hh, Bd.state]; rfl
  have N0 := Fr.nil n0
  show own_Ends p e below s (Q36a35 Z c1 a1 h0 n0) _ _ s₁ _
  rw [ef_rm36a35 m c1]
  refine own_go (T' := s₁) (f' := (mkF m 1 #[.val (.ref c1)] [(.ref c1)])) (fun _ k => XS.aloadN X0.here hx rfl (hb hby d36_0) rfl rfl k) ?_
  obtain ⟨T9, X9, e9, st9⟩ := getF X0 hx hZ hown (host := "") (Or.inl (ow26 hw)) Via.refl e0 PF6 (g := (mkF m 1 #[.val (.ref c1)] [(.ref c1)])) rfl rfl (hb hby d36_1)
  refine own_go (T' := T9) (f' := (mkF m 4 #[.val (.ref c1)] [(.ref a1)])) (fun _ k => st9 _ k) ?_
  refine own_ret X9 (v := some (.ref a1)) (fun h => by rw [Bd.returns] at h; cases h) Bd.notSynchronized (fun fs hr => own_retA X9 hx Bd.returns rfl rfl (hb hby d36_4) hr) ?_ (by decide) (by decide)
  show Q36a35 Z c1 a1 h0 n0 _ T9.heap _
  exact ⟨rfl, N0, e9⟩
theorem d37_0 : decode jdk_42_method_55_code 0 = .ok (.aload_n 0, 1) := by decide +kernel
theorem d37_1 : decode jdk_42_method_55_code 1 = .ok (.getfield 9, 3) := by decide +kernel
theorem d37_4 : decode jdk_42_method_55_code 4 = .ok (.arraylength, 1) := by decide +kernel
theorem d37_5 : decode jdk_42_method_55_code 5 = .ok (.ifCond .ne 7, 3) := by decide +kernel
theorem d37_12 : decode jdk_42_method_55_code 12 = .ok (.iconst 0, 1) := by decide +kernel
theorem d37_13 : decode jdk_42_method_55_code 13 = .ok (.ireturn, 1) := by decide +kernel
theorem ef_rm37a36 (m : MethodId) (a1 : Addr) : entryFrame m #[(.ref a1)] 1 = mkF m 0 #[.val (.ref a1)] [] := by first | (simp [entryFrame, mkF, argsToLocals, Value.category]; done) | rfl
def Q37a36 (Z : State) (a1 : Addr) (b1 : Addr) (k1 : ClassId) (h0 : Heap) (n0 : Nat) (v : Option Value) (h : Heap) (L : List Loc) : Prop := v = some (.int (0 : Int32)) ∧ Fr n0 L ∧ h = h0
set_option maxRecDepth 65536 in
set_option maxHeartbeats 40000000 in
theorem rm37a36 (l : Launch) (Z : State) (a0 : Array Value) (hw : ∀ d ∈ tables_1, d.before a0 Z = true) (ws : List Jvm.Cond) (a1 : Addr) (b1 : Addr) (k1 : ClassId) (h0 : Heap) (n0 : Nat) (Z0 : n0 ≤ h0.size) (PF9 : Fld Z h0 a1 "java/lang/String" "value" "[B" (.ref b1)) (PV10 : Arv Z h0 b1 k1 .byte (18 : Int32) own_ls0 (.int (0 : Int32))) :
    MetFree l mn35 (head1 (Jvm.Cond.code mn35 jdk_42_method_55_code 1 (some .boolean) :: ws) ({ frames := 0, cells := 0, slots := 0, locals := 0 } : Room)) (fun a U => a = #[(.ref a1)] ∧ Z.Warmed39 U.vm ∧ U.heap = h0) (fun _ _ _ _ _ => True) (fun _ U o U' => ∃ v L, o = .returned v ∧ Q37a36 Z a1 b1 k1 h0 n0 v U'.heap L ∧ FrameEnd U o U' L ({ frames := 0, cells := 0, slots := 0, locals := 0 } : Room).cells ({ frames := 0, cells := 0, slots := 0, locals := 0 } : Room).slots) := by
  refine MetFree.of_bodySF (plainFor_of_name pn_7) hisR ?_
  intro p e s m args below meth c s₁ Bd hml0 hP hK
  obtain ⟨rfl, hZ, hh⟩ := hP
  have hx := Bd.exec
  have hby := Bd.bytes
  have hml : c.maxLocals = 1 := hml0
  have hown : s.vm.findClass "java/lang/String" = some m.cls := findClass_of_methodNamed Bd.named
  have hnm := (name_of_methodNamed Bd.named Bd.method).1
  have X0 : Stand p l e ({ frames := 0, cells := 0, slots := 0, locals := 0 } : Room) s m #[(.ref a1)] below meth c s₁ [] 0 0 := Stand.of_body Bd
  have e0 : s₁.heap = h0 := by rw [← hh, Bd.state]; rfl
  have N0 := Fr.nil n0
  show own_Ends p e below s (Q37a36 Z a1 b1 k1 h0 n0) _ _ s₁ _
  rw [ef_rm37a36 m a1]
  refine own_go (T' := s₁) (f' := (mkF m 1 #[.val (.ref a1)] [(.ref a1)])) (fun _ k => XS.aloadN X0.here hx rfl (hb hby d37_0) rfl rfl k) ?_
  obtain ⟨T11, X11, e11, st11⟩ := getF X0 hx hZ hown (host := "") (Or.inl (ow65 hw)) Via.refl e0 PF9 (g := (mkF m 1 #[.val (.ref a1)] [(.ref a1)])) rfl rfl (hb hby d37_1)
  refine own_go (T' := T11) (f' := (mkF m 13 #[.val (.ref a1)] [(.int (0 : Int32))])) (fun _ k => st11 _ (own_alen X11 hx hZ e11 PV10 rfl rfl (hb hby d37_4) (XS.ifYes X11.here hx rfl (pc0 := 5) (pc' := 12) rfl (hb hby d37_5) rfl ((if0 _ _).trans (feq (by decide : ¬ ((18 : Int32) = (0 : Int32)))).2) (by decide) (by decide) (XS.iconst X11.here hx rfl (hb hby d37_12) k)))) ?_
  refine own_ret X11 (v := some (.int (0 : Int32))) (fun h => by rw [Bd.returns] at h; cases h) Bd.notSynchronized (fun fs hr => retN X11 hx (t := .boolean) Bd.returns (by simp) (hb hby d37_13) hr) ?_ (by decide) (by decide)
  show Q37a36 Z a1 b1 k1 h0 n0 _ T11.heap _
  exact ⟨rfl, N0, e11⟩
theorem pn_2 : plainName "com/example/tally_of_calls/tallyofcalls/CountsAnyNumberPinLaw" = true := by first | (simp [plainName, overriddenIn]; done) | decide +kernel
theorem ef_rm0 (m : MethodId) (q0 : Int64) : entryFrame m #[(.long q0)] maxLocals = mkF m 0 #[.val (.long q0), .second, .unset, .unset, .unset, .unset, .unset, .unset, .unset, .unset, .unset, .unset, .unset] [] := by first | (simp [entryFrame, mkF, argsToLocals, Value.category, maxLocals]; done) | rfl
def Q0 (Z : State) (B : State) (q0 : Int64) (cs : Int32) (wd : Addr) (kd : ClassId) (vd : List Value) (h0 : Heap) (n0 : Nat) (v : Option Value) (h : Heap) (vm : Vm) (L : List Loc) : Prop := v = some (.int (1 : Int32)) ∧ Fr n0 L
set_option maxRecDepth 65536 in
set_option maxHeartbeats 40000000 in
theorem rm0 (l : Launch) (Z : State) (a0 : Array Value) (hw : ∀ d ∈ tables_1, d.before a0 Z = true) (ws : List Jvm.Cond) (B : State) (q0 : Int64) (cs : Int32) (wd : Addr) (kd : ClassId) (vd : List Value) (h0 : Heap) (n0 : Nat) (Z0 : n0 ≤ h0.size) (S_cs : Sta Z h0 "java/lang/String" "COMPACT_STRINGS" "Z" (.int cs)) (hcs : ¬ (cs = (0 : Int32))) (S_do : Sta Z h0 "java/lang/Integer" "DigitOnes" "[B" (.ref wd)) (V_do : Arv Z h0 wd kd .byte (100 : Int32) vd (.int (0 : Int32))) (hvd : own_Ints vd) (hcw : Jvm.Lit.compactW.before a0 Z = true) (hh1 : Jvm.Lit.constHeld Z "com/example/tally_of_calls/tallyofcalls/Counts" 69) (hh2 : Jvm.Lit.constHeld Z "com/example/tally_of_calls/tallyofcalls/Counts" 48) (hZB : Z = B) (hZh : h0 = Z.heap) :
    MetFree l x (head1 (Jvm.Cond.code x code maxLocals ret :: ws) room_1) (fun a U => a = #[(.long q0)] ∧ Z.Warmed39 U.vm ∧ B.WarmedH U.vm ∧ U.heap = h0) (fun _ _ _ _ _ => True) (fun _ U o U' => ∃ v L, o = .returned v ∧ Q0 Z B q0 cs wd kd vd h0 n0 v U'.heap U'.vm L ∧ ReturnedEndW U o U' L room_1.cells room_1.slots) := by
  refine MetFree.of_bodySF (plainFor_of_name pn_2) hisR ?_
  intro p e s m args below meth c s₁ Bd hml0 hP hK
  obtain ⟨rfl, hZ, hB, hh⟩ := hP
  have hx := Bd.exec
  have hby := Bd.bytes
  have hml : c.maxLocals = 13 := hml0
  have hown : s.vm.findClass "com/example/tally_of_calls/tallyofcalls/CountsAnyNumberPinLaw" = some m.cls := findClass_of_methodNamed Bd.named
  have hnm := (name_of_methodNamed Bd.named Bd.method).1
  have X0 : Stand p l e room_1 (s.setVm s.vm) m #[(.long q0)] below meth c s₁ [] 0 0 := Stand.of_body Bd
  have e0 : s₁.heap = h0 := by rw [← hh, Bd.state]; rfl
  have N0 := Fr.nil n0
  have hS : s.Since s.vm h0.size := (State.WarmedH.refl s).since _
  show own_EndsW p e below s (Q0 Z B q0 cs wd kd vd h0 n0) _ _ s₁ _
  rw [ef_rm0 m q0]
  have I1 : IB Z s.vm [] := own_ib (B := Z) IB.start (hZB.symm ▸ hB)
  obtain ⟨_, _, ⟨T1, L1, k1, n1⟩, -, X1, hS1, hgr1, ⟨Lc1, hQ1, l1, y1, z1⟩, st1⟩ := callSS X0 hx (y := mn1) hown (mvT hZ (ow0 hw)) (mvT hZ (ow1 hw)) (mvT hZ (ow2 hw)) (mvT hZ (ow3 hw)) (by decide) (own_backS (W := 0) (rm1 l Z a0 hw [] (s.setVm s.vm) cs wd kd vd h0 h0.size (Nat.le_refl _) S_cs hcs S_do V_do hvd I1 (fun b cl q => (Keep.refl h0 []).2.1 b cl (by rw [hZh]; exact q) nin0) hcw hh1 rfl) hZ (ow3 hw) (ow2 hw) (by decide) (by decide)) (g := (mkF m 0 #[.val (.long q0), .second, .unset, .unset, .unset, .unset, .unset, .unset, .unset, .unset, .unset, .unset, .unset] [])) rfl (by rw [hml]; rfl) (argsL := []) (rest := []) (lenOf pd3 rfl) rfl (by show 2 * 0 + _ ≤ _; exact Nat.le_of_eq rfl) (hb hby at_0) (fun _ _ => ⟨rfl, e0, (by decide : 0 + 3 ≤ _), (by decide : 0 + 79 ≤ _)⟩)
  dsimp only [Pt.U, Pt.locs, Pt.cells, Pt.slots] at X1 l1 y1 z1 st1 hQ1 hS1 hgr1
  subst l1 y1 z1
  have hM1 := hS1
  obtain ⟨X1, hS, hZ, hown⟩ := rebS hS (by rw [e0]; exact (Nat.le_refl _) : _ ≤ s₁.heap.size) X1 hM1 hgr1 hZ hown
  obtain ⟨c1, a1, b1, k1, rfl, N1q, K1, hn1, sg_c1, IB1, g1_0, g1_1, g1_2, g1_3, g1_4, g1_5, g1_6, g1_7⟩ := hQ1
  have n_c1 : n0 ≤ c1 := Nat.le_trans Z0 hn1
  have N1 := Fr.app N0 (own_fr N1q Z0)
  have sz_c1 : h0.size ≤ c1 := Nat.le_trans (Keep.refl h0 []).1 sg_c1
  have eK1 : T1.heap = T1.heap := rfl
  have KK1 : Keep h0 T1.heap [] := Keep.trans (Keep.refl h0 []) K1 all0
  refine own_goW (T' := T1) (f' := (mkF m 5 #[.val (.long q0), .second, .val (.ref c1), .unset, .unset, .unset, .unset, .unset, .unset, .unset, .unset, .unset, .unset] [(.int (0 : Int32))])) (fun _ k => st1.trans (XS.astoreN X1.here hx rfl (hb hby at_3) rfl rfl (l' := #[.val (.long q0), .second, .val (.ref c1), .unset, .unset, .unset, .unset, .unset, .unset, .unset, .unset, .unset, .unset]) rfl (XS.iconst X1.here hx rfl (hb hby at_4) k))) ?_
  obtain ⟨_, _, ⟨T2, L2, k2, n2⟩, -, X2, hS2, hgr2, ⟨Lc2, hQ2, l2, y2, z2⟩, st2⟩ := callSS X1 hx (y := mn31) hown (mvT hZ (ow28 hw)) (mvT hZ (ow29 hw)) (mvT hZ (ow2 hw)) (mvT hZ (ow30 hw)) (by decide) (own_backS (W := 0) (rm4 l Z a0 hw [] (s.setVm T1.vm) cs wd kd vd T1.heap T1.heap.size (Nat.le_refl _) (own_sta_keep S_cs K1 own_ws0) hcs (own_sta_keep S_do K1 own_ws0) (V_do.keep K1 nin0) hvd IB1 (fun b cl q => KK1.2.1 b cl (by rw [hZh]; exact q) nin0) hcw hh2 rfl) hZ (ow30 hw) (ow2 hw) (by decide) (by decide)) (g := (mkF m 5 #[.val (.long q0), .second, .val (.ref c1), .unset, .unset, .unset, .unset, .unset, .unset, .unset, .unset, .unset, .unset] [(.int (0 : Int32))])) rfl (by rw [hml]; rfl) (argsL := [(.int (0 : Int32))]) (rest := []) (lenOf pd9 rfl) rfl (by show 2 * 0 + _ ≤ _; exact Nat.le_of_eq rfl) (hb hby at_5) (fun _ _ => ⟨rfl, eK1, (by decide : 3 + 8 ≤ _), (by decide : 79 + 156 ≤ _)⟩)
  dsimp only [Pt.U, Pt.locs, Pt.cells, Pt.slots] at X2 l2 y2 z2 st2 hQ2 hS2 hgr2
  subst l2 y2 z2
  have hM2 := hS2
  obtain ⟨X2, hS, hZ, hown⟩ := rebS hS (by rw [eK1]; exact (Nat.le_refl _) : _ ≤ T1.heap.size) X2 hM2 hgr2 hZ hown
  obtain ⟨c2, rfl, N2q, K2, hn2, sg_c2, g2_0, g2_1, g2_2⟩ := hQ2
  have n_c2 : n0 ≤ c2 := Nat.le_trans (Nat.le_trans Z0 K1.1) hn2
  have N2 := Fr.app N1 (own_fr N2q (Nat.le_trans Z0 K1.1))
  have sz_c2 : h0.size ≤ c2 := Nat.le_trans KK1.1 sg_c2
  have eK2 : T2.heap = T2.heap := rfl
  have KK2 : Keep h0 T2.heap [] := Keep.trans KK1 K2 all0
  refine own_goW (T' := T2) (f' := (mkF m 16 #[.val (.long q0), .second, .val (.ref c1), .val (.ref c2), .val (.long (q0 &&& (9223372036854775807 : Int64))), .second, .unset, .unset, .unset, .unset, .unset, .unset, .unset] [])) (fun _ k => st2.trans (XS.astoreN X2.here hx rfl (hb hby at_8) rfl rfl (l' := #[.val (.long q0), .second, .val (.ref c1), .val (.ref c2), .unset, .unset, .unset, .unset, .unset, .unset, .unset, .unset, .unset]) rfl (XS.lloadN X2.here hx rfl (hb hby at_9) rfl (X2.ldc2Long hx hown (mvT hZ (ow182 hw)) (g := (mkF m 10 #[.val (.long q0), .second, .val (.ref c1), .val (.ref c2), .unset, .unset, .unset, .unset, .unset, .unset, .unset, .unset, .unset] [(.long q0)])) rfl (hb hby at_10) _ (XS.land X2.here hx rfl (hb hby at_13) rfl (XS.lstore X2.here hx rfl (hb hby at_14) rfl (l' := #[.val (.long q0), .second, .val (.ref c1), .val (.ref c2), .val (.long (q0 &&& (9223372036854775807 : Int64))), .second, .unset, .unset, .unset, .unset, .unset, .unset, .unset]) rfl k)))))) ?_
  refine own_goW (T' := T2) (f' := (mkF m 17 #[.val (.long q0), .second, .val (.ref c1), .val (.ref c2), .val (.long (q0 &&& (9223372036854775807 : Int64))), .second, .unset, .unset, .unset, .unset, .unset, .unset, .unset] [(.ref c1)])) (fun _ k => XS.aloadN X2.here hx rfl (hb hby at_16) rfl rfl k) ?_
  obtain ⟨cq4, kq4, q4a, q4b, q4c⟩ := isOf hZ eK2 (g1_0.keep K2)
  obtain ⟨_, _, ⟨T4, L4, k4, n4⟩, -, X4, ⟨Lc4, hQ4, l4, y4, z4⟩, st4⟩ := X2.virtualBack hx (y := mn32) (z := mn32) hown (mvT hZ (ow183 hw)) (mvT hZ (ow184 hw)) (notFace_of_selects (args := #[]) (mvT hZ (ow186 hw))) (mvT hZ (ow186 hw)) (mvT hZ (ow185 hw)) (by decide) (backOf (W := 0) (rm34a33 l Z a0 hw [] c1 T2.heap n0 (Nat.le_trans (Nat.le_trans Z0 K1.1) K2.1) (g1_1.keep K2 nin0)) hZ (ow187 hw) (ow6 hw) (by decide) (by decide)) q4a q4c (g := (mkF m 17 #[.val (.long q0), .second, .val (.ref c1), .val (.ref c2), .val (.long (q0 &&& (9223372036854775807 : Int64))), .second, .unset, .unset, .unset, .unset, .unset, .unset, .unset] [(.ref c1)])) rfl (by rw [hml]; rfl) (Steps.refl _) (argsL := []) (rest := []) (lenOf pd1 rfl) rfl (by show 2 * 0 + _ ≤ _; exact Nat.le_of_eq rfl) (hb hby at_17) (fun _ _ => ⟨rfl, eK2, (by decide : 11 + 0 ≤ _), (by decide : 235 + 0 ≤ _)⟩)
  dsimp only [Pt.U, Pt.locs, Pt.cells, Pt.slots] at X4 l4 y4 z4 st4 hQ4
  subst l4 y4 z4
  obtain ⟨rfl, N4q, hh4⟩ := hQ4
  have N4 := Fr.app N2 N4q
  refine own_goW (T' := T4) (f' := (mkF m 23 #[.val (.long q0), .second, .val (.ref c1), .val (.ref c2), .val (.long (q0 &&& (9223372036854775807 : Int64))), .second, .val (.int (0 : Int32)), .unset, .unset, .unset, .unset, .unset, .unset] [(.ref c1)])) (fun _ k => st4.trans (XS.istore X4.here hx rfl (hb hby at_20) rfl (l' := #[.val (.long q0), .second, .val (.ref c1), .val (.ref c2), .val (.long (q0 &&& (9223372036854775807 : Int64))), .second, .val (.int (0 : Int32)), .unset, .unset, .unset, .unset, .unset, .unset]) rfl (XS.aloadN X4.here hx rfl (hb hby at_22) rfl rfl k))) ?_
  obtain ⟨cq6, kq6, q6a, q6b, q6c⟩ := isOf hZ hh4 (g1_0.keep K2)
  obtain ⟨_, _, ⟨T6, L6, k6, n6⟩, -, X6, ⟨Lc6, hQ6, l6, y6, z6⟩, st6⟩ := X4.virtualBack hx (y := mn33) (z := mn33) hown (mvT hZ (ow188 hw)) (mvT hZ (ow189 hw)) (notFace_of_selects (args := #[]) (mvT hZ (ow191 hw))) (mvT hZ (ow191 hw)) (mvT hZ (ow190 hw)) (by decide) (backOf (W := 0) (rm35a34 l Z a0 hw [] c1 T2.heap n0 (Nat.le_trans (Nat.le_trans Z0 K1.1) K2.1) (g1_2.keep K2 nin0)) hZ (ow192 hw) (ow6 hw) (by decide) (by decide)) q6a q6c (g := (mkF m 23 #[.val (.long q0), .second, .val (.ref c1), .val (.ref c2), .val (.long (q0 &&& (9223372036854775807 : Int64))), .second, .val (.int (0 : Int32)), .unset, .unset, .unset, .unset, .unset, .unset] [(.ref c1)])) rfl (by rw [hml]; rfl) (Steps.refl _) (argsL := []) (rest := []) (lenOf pd2 rfl) rfl (by show 2 * 0 + _ ≤ _; exact Nat.le_of_eq rfl) (hb hby at_23) (fun _ _ => ⟨rfl, hh4, (by decide : 11 + 0 ≤ _), (by decide : 235 + 0 ≤ _)⟩)
  dsimp only [Pt.U, Pt.locs, Pt.cells, Pt.slots] at X6 l6 y6 z6 st6 hQ6
  subst l6 y6 z6
  obtain ⟨rfl, N6q, hh6⟩ := hQ6
  have N6 := Fr.app N4 N6q
  refine own_goW (T' := T6) (f' := (mkF m 34 #[.val (.long q0), .second, .val (.ref c1), .val (.ref c2), .val (.long (q0 &&& (9223372036854775807 : Int64))), .second, .val (.int (0 : Int32)), .val (.long (9223372036854775807 : Int64)), .second, .unset, .unset, .unset, .unset] [(.int (lcmpW (0 : Int64) (q0 &&& (9223372036854775807 : Int64))))])) (fun _ k => st6.trans (XS.lstore X6.here hx rfl (hb hby at_26) rfl (l' := #[.val (.long q0), .second, .val (.ref c1), .val (.ref c2), .val (.long (q0 &&& (9223372036854775807 : Int64))), .second, .val (.int (0 : Int32)), .val (.long (9223372036854775807 : Int64)), .second, .unset, .unset, .unset, .unset]) rfl (XS.iload X6.here hx rfl (hb hby at_28) rfl (XS.i2l X6.here hx rfl (hb hby at_30) rfl (XS.lload X6.here hx rfl (hb hby at_31) rfl (XS.lcmp X6.here hx rfl (hb hby at_33) rfl k)))))) ?_
  refine own_goW (T' := T6) (f' := (mkF m 46 #[.val (.long q0), .second, .val (.ref c1), .val (.ref c2), .val (.long (q0 &&& (9223372036854775807 : Int64))), .second, .val (.int (0 : Int32)), .val (.long (9223372036854775807 : Int64)), .second, .unset, .unset, .unset, .unset] [(.int (1 : Int32))])) (fun _ k => XS.ifNo X6.here hx rfl (hb hby at_34) rfl ((if0 _ _).trans (flt ((not_congr (own_lc_gt (a := (0 : Int64)) (b := (q0 &&& (9223372036854775807 : Int64))))).mpr (own_land _))).2.2.1) (XS.lload X6.here hx rfl (hb hby at_37) rfl (XS.lload X6.here hx rfl (hb hby at_39) rfl (XS.lcmp X6.here hx rfl (hb hby at_41) rfl (XS.ifNo X6.here hx rfl (hb hby at_42) rfl ((if0 _ _).trans (flt ((not_congr (own_lc_gt (a := (q0 &&& (9223372036854775807 : Int64))) (b := (9223372036854775807 : Int64)))).mpr (own_max _))).2.2.1) (XS.iconst X6.here hx rfl (hb hby at_45) k)))))) ?_
  refine own_goW (T' := T6) (f' := (mkF m 55 #[.val (.long q0), .second, .val (.ref c1), .val (.ref c2), .val (.long (q0 &&& (9223372036854775807 : Int64))), .second, .val (.int (0 : Int32)), .val (.long (9223372036854775807 : Int64)), .second, .val (.int (1 : Int32)), .unset, .unset, .unset] [(.ref c2), (.int (0 : Int32))])) (fun _ k => XS.goto X6.here hx rfl (pc0 := 46) (pc' := 50) rfl (hb hby at_46) (by decide) (by decide) (XS.istore X6.here hx rfl (hb hby at_50) rfl (l' := #[.val (.long q0), .second, .val (.ref c1), .val (.ref c2), .val (.long (q0 &&& (9223372036854775807 : Int64))), .second, .val (.int (0 : Int32)), .val (.long (9223372036854775807 : Int64)), .second, .val (.int (1 : Int32)), .unset, .unset, .unset]) rfl (XS.iload X6.here hx rfl (hb hby at_52) rfl (XS.aloadN X6.here hx rfl (hb hby at_54) rfl rfl k)))) ?_
  obtain ⟨cq7, kq7, q7a, q7b, q7c⟩ := isOf hZ hh6 g2_0
  obtain ⟨_, _, ⟨T7, L7, k7, n7⟩, -, X7, ⟨Lc7, hQ7, l7, y7, z7⟩, st7⟩ := X6.virtualBack hx (y := mn32) (z := mn32) hown (mvT hZ (ow183 hw)) (mvT hZ (ow184 hw)) (notFace_of_selects (args := #[]) (mvT hZ (ow186 hw))) (mvT hZ (ow186 hw)) (mvT hZ (ow185 hw)) (by decide) (backOf (W := 1) (rm34a33 l Z a0 hw [] c2 T2.heap n0 (Nat.le_trans (Nat.le_trans Z0 K1.1) K2.1) g2_1) hZ (ow187 hw) (ow6 hw) (by decide) (by decide)) q7a q7c (g := (mkF m 55 #[.val (.long q0), .second, .val (.ref c1), .val (.ref c2), .val (.long (q0 &&& (9223372036854775807 : Int64))), .second, .val (.int (0 : Int32)), .val (.long (9223372036854775807 : Int64)), .second, .val (.int (1 : Int32)), .unset, .unset, .unset] [(.ref c2), (.int (0 : Int32))])) rfl (by rw [hml]; rfl) (Steps.refl _) (argsL := []) (rest := [(.int (0 : Int32))]) (lenOf pd1 rfl) rfl (by show 2 * 0 + _ ≤ _; exact Nat.le_of_eq rfl) (hb hby at_55) (fun _ _ => ⟨rfl, hh6, (by decide : 11 + 0 ≤ _), (by decide : 235 + 0 ≤ _)⟩)
  dsimp only [Pt.U, Pt.locs, Pt.cells, Pt.slots] at X7 l7 y7 z7 st7 hQ7
  subst l7 y7 z7
  obtain ⟨rfl, N7q, hh7⟩ := hQ7
  have N7 := Fr.app N6 N7q
  refine own_goW (T' := T7) (f' := (mkF m 64 #[.val (.long q0), .second, .val (.ref c1), .val (.ref c2), .val (.long (q0 &&& (9223372036854775807 : Int64))), .second, .val (.int (0 : Int32)), .val (.long (9223372036854775807 : Int64)), .second, .val (.int (1 : Int32)), .unset, .unset, .unset] [(.ref c2), (.long (9223372036854775807 : Int64))])) (fun _ k => st7.trans (XS.icmpNo X7.here hx rfl (hb hby at_58) rfl (teq (by decide : ((0 : Int32) = (0 : Int32)))).2 (XS.lload X7.here hx rfl (hb hby at_61) rfl (XS.aloadN X7.here hx rfl (hb hby at_63) rfl rfl k)))) ?_
  obtain ⟨cq8, kq8, q8a, q8b, q8c⟩ := isOf hZ hh7 g2_0
  obtain ⟨_, _, ⟨T8, L8, k8, n8⟩, -, X8, ⟨Lc8, hQ8, l8, y8, z8⟩, st8⟩ := X7.virtualBack hx (y := mn33) (z := mn33) hown (mvT hZ (ow188 hw)) (mvT hZ (ow189 hw)) (notFace_of_selects (args := #[]) (mvT hZ (ow191 hw))) (mvT hZ (ow191 hw)) (mvT hZ (ow190 hw)) (by decide) (backOf (W := 2) (rm35a34 l Z a0 hw [] c2 T2.heap n0 (Nat.le_trans (Nat.le_trans Z0 K1.1) K2.1) g2_2) hZ (ow192 hw) (ow6 hw) (by decide) (by decide)) q8a q8c (g := (mkF m 64 #[.val (.long q0), .second, .val (.ref c1), .val (.ref c2), .val (.long (q0 &&& (9223372036854775807 : Int64))), .second, .val (.int (0 : Int32)), .val (.long (9223372036854775807 : Int64)), .second, .val (.int (1 : Int32)), .unset, .unset, .unset] [(.ref c2), (.long (9223372036854775807 : Int64))])) rfl (by rw [hml]; rfl) (Steps.refl _) (argsL := []) (rest := [(.long (9223372036854775807 : Int64))]) (lenOf pd2 rfl) rfl (by show 2 * 0 + _ ≤ _; exact Nat.le_of_eq rfl) (hb hby at_64) (fun _ _ => ⟨rfl, hh7, (by decide : 11 + 0 ≤ _), (by decide : 235 + 0 ≤ _)⟩)
  dsimp only [Pt.U, Pt.locs, Pt.cells, Pt.slots] at X8 l8 y8 z8 st8 hQ8
  subst l8 y8 z8
  obtain ⟨rfl, N8q, hh8⟩ := hQ8
  have N8 := Fr.app N7 N8q
  refine own_goW (T' := T8) (f' := (mkF m 78 #[.val (.long q0), .second, .val (.ref c1), .val (.ref c2), .val (.long (q0 &&& (9223372036854775807 : Int64))), .second, .val (.int (0 : Int32)), .val (.long (9223372036854775807 : Int64)), .second, .val (.int (1 : Int32)), .val (.int (1 : Int32)), .unset, .unset] [])) (fun _ k => st8.trans (XS.lcmp X8.here hx rfl (hb hby at_67) rfl (XS.ifNo X8.here hx rfl (hb hby at_68) rfl ((if0 _ _).trans (teq ((own_lc_eq (a := (9223372036854775807 : Int64)) (b := (9223372036854775807 : Int64))).mpr (by decide : ((9223372036854775807 : Int64) = (9223372036854775807 : Int64))))).2) (XS.iconst X8.here hx rfl (hb hby at_71) (XS.goto X8.here hx rfl (pc0 := 72) (pc' := 76) rfl (hb hby at_72) (by decide) (by decide) (XS.istore X8.here hx rfl (hb hby at_76) rfl (l' := #[.val (.long q0), .second, .val (.ref c1), .val (.ref c2), .val (.long (q0 &&& (9223372036854775807 : Int64))), .second, .val (.int (0 : Int32)), .val (.long (9223372036854775807 : Int64)), .second, .val (.int (1 : Int32)), .val (.int (1 : Int32)), .unset, .unset]) rfl k)))))) ?_
  refine own_goW (T' := T8) (f' := (mkF m 79 #[.val (.long q0), .second, .val (.ref c1), .val (.ref c2), .val (.long (q0 &&& (9223372036854775807 : Int64))), .second, .val (.int (0 : Int32)), .val (.long (9223372036854775807 : Int64)), .second, .val (.int (1 : Int32)), .val (.int (1 : Int32)), .unset, .unset] [(.ref c1)])) (fun _ k => XS.aloadN X8.here hx rfl (hb hby at_78) rfl rfl k) ?_
  obtain ⟨cq10, kq10, q10a, q10b, q10c⟩ := isOf hZ hh8 (g1_0.keep K2)
  obtain ⟨_, _, ⟨T10, L10, k10, n10⟩, -, X10, ⟨Lc10, hQ10, l10, y10, z10⟩, st10⟩ := X8.virtualBack hx (y := mn34) (z := mn34) hown (mvT hZ (ow193 hw)) (mvT hZ (ow194 hw)) (notFace_of_selects (args := #[]) (mvT hZ (ow196 hw))) (mvT hZ (ow196 hw)) (mvT hZ (ow195 hw)) (by decide) (backOf (W := 0) (rm36a35 l Z a0 hw [] c1 a1 T2.heap n0 (Nat.le_trans (Nat.le_trans Z0 K1.1) K2.1) (g1_3.keep K2 nin0)) hZ (ow197 hw) (ow6 hw) (by decide) (by decide)) q10a q10c (g := (mkF m 79 #[.val (.long q0), .second, .val (.ref c1), .val (.ref c2), .val (.long (q0 &&& (9223372036854775807 : Int64))), .second, .val (.int (0 : Int32)), .val (.long (9223372036854775807 : Int64)), .second, .val (.int (1 : Int32)), .val (.int (1 : Int32)), .unset, .unset] [(.ref c1)])) rfl (by rw [hml]; rfl) (Steps.refl _) (argsL := []) (rest := []) (lenOf pd4 rfl) rfl (by show 2 * 0 + _ ≤ _; exact Nat.le_of_eq rfl) (hb hby at_79) (fun _ _ => ⟨rfl, hh8, (by decide : 11 + 0 ≤ _), (by decide : 235 + 0 ≤ _)⟩)
  dsimp only [Pt.U, Pt.locs, Pt.cells, Pt.slots] at X10 l10 y10 z10 st10 hQ10
  subst l10 y10 z10
  obtain ⟨rfl, N10q, hh10⟩ := hQ10
  have N10 := Fr.app N8 N10q
  refine own_goW (T' := T10) (f' := (mkF m 91 #[.val (.long q0), .second, .val (.ref c1), .val (.ref c2), .val (.long (q0 &&& (9223372036854775807 : Int64))), .second, .val (.int (0 : Int32)), .val (.long (9223372036854775807 : Int64)), .second, .val (.int (1 : Int32)), .val (.int (1 : Int32)), .val (.ref a1), .unset] [(.ref a1)])) (fun _ k => st10.trans (XS.astore X10.here hx rfl (hb hby at_82) rfl rfl (l' := #[.val (.long q0), .second, .val (.ref c1), .val (.ref c2), .val (.long (q0 &&& (9223372036854775807 : Int64))), .second, .val (.int (0 : Int32)), .val (.long (9223372036854775807 : Int64)), .second, .val (.int (1 : Int32)), .val (.int (1 : Int32)), .val (.ref a1), .unset]) rfl (XS.aload X10.here hx rfl (hb hby at_84) rfl rfl (XS.ifnullNo X10.here hx rfl (hb hby at_86) rfl (XS.aload X10.here hx rfl (hb hby at_89) rfl rfl k))))) ?_
  obtain ⟨cq12, kq12, q12a, q12b, q12c⟩ := isOf hZ hh10 (g1_4.keep K2)
  obtain ⟨_, _, ⟨T12, L12, k12, n12⟩, -, X12, ⟨Lc12, hQ12, l12, y12, z12⟩, st12⟩ := X10.virtualBack hx (y := mn35) (z := mn35) hown (mvT hZ (ow198 hw)) (mvT hZ (ow199 hw)) (notFace_of_selects (args := #[]) (mvT hZ (ow201 hw))) (mvT hZ (ow201 hw)) (mvT hZ (ow200 hw)) (by decide) (backOf (W := 0) (rm37a36 l Z a0 hw [] a1 b1 k1 T2.heap n0 (Nat.le_trans (Nat.le_trans Z0 K1.1) K2.1) (g1_6.keep K2 nin0) (g1_7.keep K2 nin0)) hZ (ow202 hw) (ow9 hw) (by decide) (by decide)) q12a q12c (g := (mkF m 91 #[.val (.long q0), .second, .val (.ref c1), .val (.ref c2), .val (.long (q0 &&& (9223372036854775807 : Int64))), .second, .val (.int (0 : Int32)), .val (.long (9223372036854775807 : Int64)), .second, .val (.int (1 : Int32)), .val (.int (1 : Int32)), .val (.ref a1), .unset] [(.ref a1)])) rfl (by rw [hml]; rfl) (Steps.refl _) (argsL := []) (rest := []) (lenOf pd6 rfl) rfl (by show 2 * 0 + _ ≤ _; exact Nat.le_of_eq rfl) (hb hby at_91) (fun _ _ => ⟨rfl, hh10, (by decide : 11 + 0 ≤ _), (by decide : 235 + 0 ≤ _)⟩)
  dsimp only [Pt.U, Pt.locs, Pt.cells, Pt.slots] at X12 l12 y12 z12 st12 hQ12
  subst l12 y12 z12
  obtain ⟨rfl, N12q, hh12⟩ := hQ12
  have N12 := Fr.app N10 N12q
  refine own_goW (T' := T12) (f' := (mkF m 106 #[.val (.long q0), .second, .val (.ref c1), .val (.ref c2), .val (.long (q0 &&& (9223372036854775807 : Int64))), .second, .val (.int (0 : Int32)), .val (.long (9223372036854775807 : Int64)), .second, .val (.int (1 : Int32)), .val (.int (1 : Int32)), .val (.ref a1), .val (.int (1 : Int32))] [(.int (0 : Int32))])) (fun _ k => st12.trans (XS.ifNo X12.here hx rfl (hb hby at_94) rfl ((if0 _ _).trans (teq (by decide : ((0 : Int32) = (0 : Int32)))).2) (XS.iconst X12.here hx rfl (hb hby at_97) (XS.goto X12.here hx rfl (pc0 := 98) (pc' := 102) rfl (hb hby at_98) (by decide) (by decide) (XS.istore X12.here hx rfl (hb hby at_102) rfl (l' := #[.val (.long q0), .second, .val (.ref c1), .val (.ref c2), .val (.long (q0 &&& (9223372036854775807 : Int64))), .second, .val (.int (0 : Int32)), .val (.long (9223372036854775807 : Int64)), .second, .val (.int (1 : Int32)), .val (.int (1 : Int32)), .val (.ref a1), .val (.int (1 : Int32))]) rfl (XS.iload X12.here hx rfl (hb hby at_104) rfl k)))))) ?_
  refine own_goW (T' := T12) (f' := (mkF m 121 #[.val (.long q0), .second, .val (.ref c1), .val (.ref c2), .val (.long (q0 &&& (9223372036854775807 : Int64))), .second, .val (.int (0 : Int32)), .val (.long (9223372036854775807 : Int64)), .second, .val (.int (1 : Int32)), .val (.int (1 : Int32)), .val (.ref a1), .val (.int (1 : Int32))] [(.long (9223372036854775807 : Int64))])) (fun _ k => XS.ifNo X12.here hx rfl (hb hby at_106) rfl ((if0 _ _).trans (flt (by decide : ¬ ((0 : Int32) < (0 : Int32)))).1) (XS.iload X12.here hx rfl (hb hby at_109) rfl (XS.ifNo X12.here hx rfl (hb hby at_111) rfl ((if0 _ _).trans (feq (by decide : ¬ ((1 : Int32) = (0 : Int32)))).1) (XS.iload X12.here hx rfl (hb hby at_114) rfl (XS.ifNo X12.here hx rfl (hb hby at_116) rfl ((if0 _ _).trans (feq (by decide : ¬ ((1 : Int32) = (0 : Int32)))).1) (XS.lload X12.here hx rfl (hb hby at_119) rfl k)))))) ?_
  refine own_goW (T' := T12) (f' := (mkF m 134 #[.val (.long q0), .second, .val (.ref c1), .val (.ref c2), .val (.long (q0 &&& (9223372036854775807 : Int64))), .second, .val (.int (0 : Int32)), .val (.long (9223372036854775807 : Int64)), .second, .val (.int (1 : Int32)), .val (.int (1 : Int32)), .val (.ref a1), .val (.int (1 : Int32))] [(.int (1 : Int32))])) (fun _ k => X12.ldc2Long hx hown (mvT hZ (ow182 hw)) (g := (mkF m 121 #[.val (.long q0), .second, .val (.ref c1), .val (.ref c2), .val (.long (q0 &&& (9223372036854775807 : Int64))), .second, .val (.int (0 : Int32)), .val (.long (9223372036854775807 : Int64)), .second, .val (.int (1 : Int32)), .val (.int (1 : Int32)), .val (.ref a1), .val (.int (1 : Int32))] [(.long (9223372036854775807 : Int64))])) rfl (hb hby at_121) _ (XS.lcmp X12.here hx rfl (hb hby at_124) rfl (XS.ifNo X12.here hx rfl (hb hby at_125) rfl ((if0 _ _).trans (teq ((own_lc_eq (a := (9223372036854775807 : Int64)) (b := (9223372036854775807 : Int64))).mpr (by decide : ((9223372036854775807 : Int64) = (9223372036854775807 : Int64))))).2) (XS.iload X12.here hx rfl (hb hby at_128) rfl (XS.ifNo X12.here hx rfl (hb hby at_130) rfl ((if0 _ _).trans (feq (by decide : ¬ ((1 : Int32) = (0 : Int32)))).1) (XS.iconst X12.here hx rfl (hb hby at_133) k)))))) ?_
  refine own_goW (T' := T12) (f' := (mkF m 138 #[.val (.long q0), .second, .val (.ref c1), .val (.ref c2), .val (.long (q0 &&& (9223372036854775807 : Int64))), .second, .val (.int (0 : Int32)), .val (.long (9223372036854775807 : Int64)), .second, .val (.int (1 : Int32)), .val (.int (1 : Int32)), .val (.ref a1), .val (.int (1 : Int32))] [(.int (1 : Int32))])) (fun _ k => XS.goto X12.here hx rfl (pc0 := 134) (pc' := 138) rfl (hb hby at_134) (by decide) (by decide) k) ?_
  refine own_retW X12 hS (by rw [hh12]; exact (Nat.le_refl _)) (v := some (.int (1 : Int32))) (fun h => by rw [Bd.returns] at h; cases h) Bd.notSynchronized (fun fs hr => retN X12 hx (t := .boolean) Bd.returns (by simp) (hb hby at_138) hr) ?_ (by decide) (by decide)
  show Q0 Z B q0 cs wd kd vd h0 n0 _ T12.heap T12.vm _
  exact ⟨rfl, N12⟩
set_option maxRecDepth 65536 in
set_option maxHeartbeats 40000000 in
theorem comes_1 {Post : Tables → Env → Array Value → State → Outcome → State → Prop} (hpost : ∀ tb e args s v u, (limb_1_1.after args s (.returned v) u = true ∧ limb_1_2.after args s (.returned v) u = true ∧ True) → ReturnedEndW s (.returned v) u (Jvm.fieldLocs frame_1_writes args s ++ Jvm.arrayLocs frame_1_arrays args s ++ Jvm.staticLocs frame_1_statics s) 32 2304 → Post tb e args s (.returned v) u) :
    ArmFor flags0 classFile x code maxLocals ret World_1 tables_1 room_1 Calls_1 rest_1 Pre_1 Post := by
  intro l hfl _ _ p e ha hc hk s m args below hf hA hF happ hP
  obtain ⟨hcalls, hrest, hpre⟩ := hP
  obtain ⟨-, -, -, hnamed, -, -, -, hat⟩ := (Spec.applies_iff hf).mp happ
  obtain ⟨hg, hn⟩ := and_e (Cond.before_iff.mp (show (Jvm.Cond.and given_1 narrow_1).before args s = true from hpre))
  obtain ⟨hg_2, hg_3⟩ := and_e hg
  obtain ⟨w0, rfl⟩ : ∃ w0 : Value, args = #[w0] := by
    have hs : args.size = 1 := by simpa [Cond.value, given_1] using hg_2
    obtain ⟨L⟩ := args
    match L, hs with
    | [w0], _ => exact ⟨w0, rfl⟩
  have hw := fun d (hd : d ∈ tables_1) => atoms_spec (ws := Jvm.Cond.code x code maxLocals ret :: tables_1) hat d (List.mem_cons_of_mem _ hd)
  have hfit : Fit s := fun {y c} hc i hi => by
    obtain ⟨ha, rfl⟩ := Array.getElem?_eq_some_iff.mp hc
    have q := List.all_eq_true.mp ((Array.all_eq_true_iff_forall_mem.mp hF) _ (Array.getElem_mem ha)) i (List.mem_range.mpr hi)
    simpa [Array.getElem?_eq_getElem hi] using q
  obtain ⟨hsets, hown0⟩ := atoms_of _ (rest_1_c_eq ▸ (show rest_1_c.before _ s = true from hrest))
  have hr0 := Cond.before_iff.mp hown0
  obtain ⟨i0, ei0⟩ := isL_v hg_3
  obtain rfl : w0 = (.long i0) := Option.some.inj ei0
  obtain ⟨cs, ecs⟩ := is_v (Cond.before_iff.mp (hsets _ (List.mem_of_getElem? (i := 1) rfl)))
  have S_cs : Sta s s.heap "java/lang/String" "COMPACT_STRINGS" "Z" (.int cs) := Sta.start ecs (Or.inl (hsets _ (List.mem_of_getElem? (i := 0) rfl)))
  have hcw := hsets _ (List.mem_of_getElem? (i := 2) rfl)
  have hcs : ¬ (cs = (0 : Int32)) := own_ne0 ecs hcw
  obtain ⟨wd, ewd⟩ := exa_v (Cond.before_iff.mp (hsets _ (List.mem_of_getElem? (i := 12) rfl)))
  have S_do : Sta s s.heap "java/lang/Integer" "DigitOnes" "[B" (.ref wd) := Sta.start ewd (Or.inl (hsets _ (List.mem_of_getElem? (i := 11) rfl)))
  obtain ⟨kd, vd, V_do, hvd⟩ := own_digits hfit ewd (hsets _ (List.mem_of_getElem? (i := 12) rfl)) (hsets _ (List.mem_of_getElem? (i := 13) rfl)) (hw _ (List.mem_of_getElem? (i := 11) rfl))
  obtain ⟨n, o, h1, h2, h3, _, L, rfl, ⟨rfl, N⟩, hq⟩ := rm0 l s _ hw tables_1 s i0 cs wd kd vd s.heap s.heap.size (Nat.le_refl _) S_cs hcs S_do V_do hvd hcw (hcalls.1 _ (List.mem_of_getElem? (i := 1) rfl)) (hcalls.1 _ (List.mem_of_getElem? (i := 0) rfl)) rfl rfl p e ha hc hk s m _ below hf ((Spec.applies_iff_loose hf).mp happ).1 ⟨rfl, State.Warmed39.refl s, State.WarmedH.refl s, rfl⟩ trivial
  refine ⟨n, _, h1, h2, h3, hpost _ _ _ _ _ _ ⟨Cond.after_iff.mpr rfl, Cond.after_iff.mpr (eq_i res_at (Term.int_eval (1)) rfl), trivial⟩ ⟨hq.1, hq.2.1, hq.2.2.1, (hq.2.2.2.sift fun y hy => Or.inr (N y hy)).mono (by decide) (by decide)⟩⟩
theorem main_1_1 : Claimed_1_1 := comes_1 fun _ _ _ _ _ _ h hF => ⟨h.1, hF⟩
theorem main_1_2 : Claimed_1_2 := comes_1 fun _ _ _ _ _ _ h hF => ⟨h.2.1, hF⟩
end Jvm.Pilot.@@N@@
namespace Jvm.Pilot.@@N@@
open Jvm Jvm.ClassFile Sem Op Lib Jvm.Free Jvm.Stand Jvm.Pilot.@@N@@.Jvm.D
/-! MADE BY PROGRAM (witnessworld.py) out of the Statement's table words and the real class files: 26 classes; the members and pool entries that the words name. The judged class is class 1, her method 1. -/
namespace start1
open Jvm.ClassFile
def u (s : String) : CpInfo := .utf8 (stringToUtf16 s)
/-- a pool by its gaps: so many unusable entries, then the entry; so many at the end -/
def gap : Nat → List CpInfo → List CpInfo
  | 0, r => r
  | n + 1, r => .unusable :: gap n r
def poolList (es : List (Nat × CpInfo)) (last : Nat) : List CpInfo := es.foldr (fun e r => gap e.1 (e.2 :: r)) (gap last [])
def pool (es : List (Nat × CpInfo)) (last : Nat) : Array CpInfo := ⟨poolList es last⟩
def fileOf (pool : Array CpInfo) (this : Nat) (attrs : Array Attribute := #[]) (ms : Array MethodInfo := #[]) (fl : Nat := 33) (sup : Nat := 0) (ifs : Array Nat := #[]) (fds : Array FieldInfo := #[]) : ClassFile where
  minorVersion := 0
  majorVersion := 65
  constantPool := pool
  accessFlags := fl
  thisClass := this
  superClass := sup
  interfaces := ifs
  fields := fds
  methods := ms
  attributes := attrs
def plain (name : String) (sup : Option ClassId) : Class where
  name := name
  kind := .ordinary
  loader := none
  accessFlags := 33
  super := sup
  interfaces := #[]
  cf := none
  fields := #[]
  methods := #[]
  instanceTypes := #[]
  staticTypes := #[]
  resolved := #[]
  callSites := []
  init := .initialized
  statics := none
  mirror := none

def pool0 : Array CpInfo := pool [(5, u "<init>"), (0, u "()V"), (1, .class_ 10), (1, u "java/lang/Object")] 113

def k0c0 : Code := { maxStack := 0, maxLocals := 1, code := object_method_1_code, exceptionTable := #[], attributes := #[] }
def k0m0 : Method := { name := "<init>", desc := "()V", sig := { parameters := [], returnType := none }, accessFlags := 1, code := some k0c0 }
/-- java/lang/Object -/
def k0 : Class := { plain "java/lang/Object" none with
  accessFlags := 33
  interfaces := #[]
  cf := some (fileOf pool0 8 #[] #[{ accessFlags := 1, nameIndex := 5, descriptorIndex := 6, attributes := #[] }] 33 0 #[] #[])
  fields := #[]
  methods := #[k0m0]
  instanceTypes := #[]
  staticTypes := #[]
  resolved := Array.replicate 124 none
  statics := none }

def pool1 : Array CpInfo := pool [(2, .class_ 4), (1, u "java/lang/Object"), (0, u "<init>"), (0, u "()V"), (0, .methodref 8 9), (0, .class_ 10), (0, .nameAndType 11 12), (0, u "com/example/tally_of_calls/tallyofcalls/Counts"), (0, u "anyNumber"), (0, u "()Lcom/example/tally_of_calls/tallyofcalls/Count;"), (0, .methodref 8 14), (0, .nameAndType 15 16), (0, u "atLeast"), (0, u "(I)Lcom/example/tally_of_calls/tallyofcalls/Count;"), (2, .long 9223372036854775807), (1, .methodref 22 23), (0, .class_ 24), (0, .nameAndType 25 26), (0, u "com/example/tally_of_calls/tallyofcalls/Count"), (0, u "min"), (0, u "()I"), (0, .methodref 22 28), (0, .nameAndType 29 30), (0, u "max"), (0, u "()J"), (0, .methodref 22 32), (0, .nameAndType 33 34), (0, u "phrase"), (0, u "()Ljava/lang/String;"), (0, .methodref 36 37), (0, .class_ 38), (0, .nameAndType 39 40), (0, u "java/lang/String"), (0, u "isEmpty"), (0, u "()Z"), (0, .class_ 42), (0, u "com/example/tally_of_calls/tallyofcalls/CountsAnyNumberPinLaw"), (2, u "law"), (0, u "(J)Z")] 3

def k1m0 : Method := { name := "<init>", desc := "()V", sig := { parameters := [], returnType := none }, accessFlags := 2, code := none }
def k1c1 : Code := { maxStack := 4, maxLocals := 13, code := code, exceptionTable := #[], attributes := #[] }
def k1m1 : Method := { name := "law", desc := "(J)Z", sig := { parameters := [.long], returnType := some .boolean }, accessFlags := 9, code := some k1c1 }
/-- com/example/tally_of_calls/tallyofcalls/CountsAnyNumberPinLaw -/
def k1 : Class := { plain "com/example/tally_of_calls/tallyofcalls/CountsAnyNumberPinLaw" (some 0) with
  accessFlags := 49
  interfaces := #[]
  cf := some (fileOf pool1 41 #[] #[{ accessFlags := 2, nameIndex := 5, descriptorIndex := 6, attributes := #[] }, { accessFlags := 9, nameIndex := 45, descriptorIndex := 46, attributes := #[] }] 49 2 #[] #[])
  fields := #[]
  methods := #[k1m0, k1m1]
  instanceTypes := #[]
  staticTypes := #[]
  resolved := Array.replicate 50 none
  statics := none }

def pool2 : Array CpInfo := pool [(2, .class_ 4), (0, .nameAndType 5 6), (0, u "java/lang/Object"), (0, u "<init>"), (0, u "()V"), (1, .class_ 10), (1, u "com/example/tally_of_calls/tallyofcalls/Counts"), (1, u "(I)Lcom/example/tally_of_calls/tallyofcalls/Count;"), (0, .class_ 14), (0, u "java/lang/StringBuilder"), (0, .methodref 13 3), (2, .methodref 13 19), (0, .nameAndType 20 21), (0, u "append"), (0, u "(Ljava/lang/String;)Ljava/lang/StringBuilder;"), (0, .methodref 13 23), (0, .nameAndType 20 24), (0, u "(I)Ljava/lang/StringBuilder;"), (2, .methodref 13 28), (0, .nameAndType 29 30), (0, u "toString"), (0, u "()Ljava/lang/String;"), (4, .class_ 36), (0, u "com/example/tally_of_calls/tallyofcalls/Count"), (4, .methodref 35 42), (0, .nameAndType 5 43), (0, u "(IJLjava/lang/String;)V"), (2, .long 9223372036854775807), (1, .string 49), (0, u "expected at least "), (19, .string 70), (0, u "allowed any number"), (7, u "()Lcom/example/tally_of_calls/tallyofcalls/Count;"), (3, u "atLeast"), (3, u "anyNumber")] 3

def k2m0 : Method := { name := "<init>", desc := "()V", sig := { parameters := [], returnType := none }, accessFlags := 2, code := none }
def k2c1 : Code := { maxStack := 7, maxLocals := 1, code := prog_5_method_4_code, exceptionTable := #[], attributes := #[] }
def k2m1 : Method := { name := "atLeast", desc := "(I)Lcom/example/tally_of_calls/tallyofcalls/Count;", sig := { parameters := [.int], returnType := some (.object "com/example/tally_of_calls/tallyofcalls/Count") }, accessFlags := 9, code := some k2c1 }
def k2c2 : Code := { maxStack := 6, maxLocals := 0, code := prog_5_method_7_code, exceptionTable := #[], attributes := #[] }
def k2m2 : Method := { name := "anyNumber", desc := "()Lcom/example/tally_of_calls/tallyofcalls/Count;", sig := { parameters := [], returnType := some (.object "com/example/tally_of_calls/tallyofcalls/Count") }, accessFlags := 9, code := some k2c2 }
/-- com/example/tally_of_calls/tallyofcalls/Counts -/
def k2 : Class := { plain "com/example/tally_of_calls/tallyofcalls/Counts" (some 0) with
  accessFlags := 33
  interfaces := #[]
  cf := some (fileOf pool2 8 #[] #[{ accessFlags := 2, nameIndex := 5, descriptorIndex := 6, attributes := #[] }, { accessFlags := 9, nameIndex := 82, descriptorIndex := 12, attributes := #[] }, { accessFlags := 9, nameIndex := 86, descriptorIndex := 78, attributes := #[] }] 33 2 #[] #[])
  fields := #[]
  methods := #[k2m0, k2m1, k2m2]
  instanceTypes := #[]
  staticTypes := #[]
  resolved := Array.replicate 90 none
  statics := none }

def pool3 : Array CpInfo := pool [(3, .methodref 4 5), (0, .class_ 6), (0, .nameAndType 7 8), (0, u "java/lang/Object"), (0, u "<init>"), (0, u "()V"), (0, .fieldref 10 11), (0, .class_ 12), (0, .nameAndType 13 14), (0, u "com/example/tally_of_calls/tallyofcalls/Count"), (0, u "min"), (0, u "I"), (0, .fieldref 10 16), (0, .nameAndType 17 18), (0, u "max"), (0, u "J"), (0, .fieldref 10 20), (0, .nameAndType 21 22), (0, u "phrase"), (0, u "Ljava/lang/String;"), (0, u "UNBOUNDED"), (3, u "(IJLjava/lang/String;)V"), (2, u "()I"), (0, u "()J"), (0, u "()Ljava/lang/String;")] 2

def k3c0 : Code := { maxStack := 3, maxLocals := 5, code := prog_4_method_1_code, exceptionTable := #[], attributes := #[] }
def k3m0 : Method := { name := "<init>", desc := "(IJLjava/lang/String;)V", sig := { parameters := [.int, .long, (.object "java/lang/String")], returnType := none }, accessFlags := 0, code := some k3c0 }
def k3c1 : Code := { maxStack := 1, maxLocals := 1, code := prog_4_method_2_code, exceptionTable := #[], attributes := #[] }
def k3m1 : Method := { name := "min", desc := "()I", sig := { parameters := [], returnType := some .int }, accessFlags := 0, code := some k3c1 }
def k3c2 : Code := { maxStack := 2, maxLocals := 1, code := prog_4_method_3_code, exceptionTable := #[], attributes := #[] }
def k3m2 : Method := { name := "max", desc := "()J", sig := { parameters := [], returnType := some .long }, accessFlags := 0, code := some k3c2 }
def k3c3 : Code := { maxStack := 1, maxLocals := 1, code := prog_4_method_4_code, exceptionTable := #[], attributes := #[] }
def k3m3 : Method := { name := "phrase", desc := "()Ljava/lang/String;", sig := { parameters := [], returnType := some (.object "java/lang/String") }, accessFlags := 0, code := some k3c3 }
/-- com/example/tally_of_calls/tallyofcalls/Count -/
def k3 : Class := { plain "com/example/tally_of_calls/tallyofcalls/Count" (some 0) with
  accessFlags := 33
  interfaces := #[]
  cf := some (fileOf pool3 10 #[] #[{ accessFlags := 0, nameIndex := 7, descriptorIndex := 27, attributes := #[] }, { accessFlags := 0, nameIndex := 13, descriptorIndex := 30, attributes := #[] }, { accessFlags := 0, nameIndex := 17, descriptorIndex := 31, attributes := #[] }, { accessFlags := 0, nameIndex := 21, descriptorIndex := 32, attributes := #[] }] 33 4 #[] #[{ accessFlags := 24, nameIndex := 23, descriptorIndex := 18, attributes := #[] }, { accessFlags := 18, nameIndex := 13, descriptorIndex := 14, attributes := #[] }, { accessFlags := 18, nameIndex := 17, descriptorIndex := 18, attributes := #[] }, { accessFlags := 18, nameIndex := 21, descriptorIndex := 22, attributes := #[] }])
  fields := #[{ name := "UNBOUNDED", type := .long, accessFlags := 24, slot := 0, constantValue := 0 }, { name := "min", type := .int, accessFlags := 18, slot := 0, constantValue := 0 }, { name := "max", type := .long, accessFlags := 18, slot := 1, constantValue := 0 }, { name := "phrase", type := (.object "java/lang/String"), accessFlags := 18, slot := 2, constantValue := 0 }]
  methods := #[k3m0, k3m1, k3m2, k3m3]
  instanceTypes := #[.int, .long, (.object "java/lang/String")]
  staticTypes := #[.long]
  resolved := Array.replicate 35 none
  statics := none }

def pool4 : Array CpInfo := pool [(1, .class_ 2), (0, u "java/io/Serializable"), (0, .class_ 4), (0, u "java/lang/Object")] 2

/-- java/io/Serializable -/
def k4 : Class := { plain "java/io/Serializable" (some 0) with
  accessFlags := 1537
  interfaces := #[]
  cf := some (fileOf pool4 1 #[] #[] 1537 3 #[] #[])
  fields := #[]
  methods := #[]
  instanceTypes := #[]
  staticTypes := #[]
  resolved := Array.replicate 7 none
  statics := none }

def pool5 : Array CpInfo := pool [(1, .class_ 2), (0, u "java/lang/Comparable"), (0, .class_ 4), (0, u "java/lang/Object")] 7

/-- java/lang/Comparable -/
def k5 : Class := { plain "java/lang/Comparable" (some 0) with
  accessFlags := 1537
  interfaces := #[]
  cf := some (fileOf pool5 1 #[] #[] 1537 3 #[] #[])
  fields := #[]
  methods := #[]
  instanceTypes := #[]
  staticTypes := #[]
  resolved := Array.replicate 12 none
  statics := none }

def pool6 : Array CpInfo := pool [(2, .class_ 4), (1, u "java/lang/CharSequence"), (42, .class_ 48), (0, u "java/lang/CharSequence$1CodePointIterator"), (10, .class_ 60), (0, u "java/lang/CharSequence$1CharIterator"), (5, .class_ 67), (0, u "java/lang/Object")] 63

/-- java/lang/CharSequence -/
def k6 : Class := { plain "java/lang/CharSequence" (some 0) with
  accessFlags := 1537
  interfaces := #[]
  cf := some (fileOf pool6 2 #[.nestMembers #[47, 59]] #[] 1537 66 #[] #[])
  fields := #[]
  methods := #[]
  instanceTypes := #[]
  staticTypes := #[]
  resolved := Array.replicate 131 none
  statics := none }

def pool7 : Array CpInfo := pool [(1, .class_ 2), (0, u "java/lang/constant/Constable"), (0, .class_ 4), (0, u "java/lang/Object")] 6

/-- java/lang/constant/Constable -/
def k7 : Class := { plain "java/lang/constant/Constable" (some 0) with
  accessFlags := 1537
  interfaces := #[]
  cf := some (fileOf pool7 1 #[] #[] 1537 3 #[] #[])
  fields := #[]
  methods := #[]
  instanceTypes := #[]
  staticTypes := #[]
  resolved := Array.replicate 11 none
  statics := none }

def pool8 : Array CpInfo := pool [(1, .class_ 2), (0, u "java/lang/constant/ConstantDesc"), (0, .class_ 4), (0, u "java/lang/Object")] 32

/-- java/lang/constant/ConstantDesc -/
def k8 : Class := { plain "java/lang/constant/ConstantDesc" (some 0) with
  accessFlags := 1537
  interfaces := #[]
  cf := some (fileOf pool8 1 #[] #[] 1537 3 #[] #[])
  fields := #[]
  methods := #[]
  instanceTypes := #[]
  staticTypes := #[]
  resolved := Array.replicate 37 none
  statics := none }

def pool9 : Array CpInfo := pool [(1, .methodref 2 3), (0, .class_ 4), (0, .nameAndType 5 6), (0, u "java/lang/Object"), (0, u "<init>"), (0, u "()V"), (2, .fieldref 10 11), (0, .class_ 12), (0, .nameAndType 13 14), (0, u "java/lang/String"), (0, u "value"), (0, u "[B"), (0, .fieldref 10 16), (0, .nameAndType 17 18), (0, u "coder"), (0, u "B"), (2, u "hash"), (0, u "I"), (2, u "hashIsZero"), (0, u "Z"), (11, .fieldref 10 39), (0, .nameAndType 40 26), (0, u "COMPACT_STRINGS"), (13, .methodref 55 56), (0, .class_ 57), (0, .nameAndType 58 59), (0, u "java/util/Arrays"), (0, u "copyOfRange"), (0, u "([BII)[B"), (82, u "()Z"), (50, .class_ 195), (1, u "java/lang/System"), (16, .methodref 193 213), (0, .nameAndType 214 215), (0, u "arraycopy"), (0, u "(Ljava/lang/Object;ILjava/lang/Object;II)V"), (118, u "()I"), (0, .methodref 10 336), (0, .nameAndType 17 337), (0, u "()B"), (2, u "()[B"), (148, .methodref 10 490), (0, .nameAndType 5 491), (0, u "(Ljava/lang/AbstractStringBuilder;Ljava/lang/Void;)V"), (1, .nameAndType 494 142), (0, u "isLatin1"), (11, .nameAndType 507 334), (0, u "length"), (24, u "getBytes"), (16, .methodref 550 506), (0, .class_ 551), (0, u "java/lang/AbstractStringBuilder"), (0, .methodref 550 553), (0, .nameAndType 554 340), (0, u "getValue"), (20, .class_ 576), (0, u "java/lang/CharSequence"), (22, u "CASE_INSENSITIVE_ORDER"), (0, u "Ljava/util/Comparator;"), (91, u "isEmpty"), (128, u "([BIB)V"), (225, .methodref 550 493), (53, u "serialPersistentFields"), (0, u "[Ljava/io/ObjectStreamField;"), (0, .class_ 1104), (0, u "java/lang/String$CaseInsensitiveComparator"), (1, .class_ 1107), (0, u "java/io/Serializable"), (0, .class_ 1109), (0, u "java/lang/Comparable"), (0, .class_ 1111), (0, u "java/lang/constant/Constable"), (0, .class_ 1113), (0, u "java/lang/constant/ConstantDesc"), (2, u "serialVersionUID"), (0, u "J"), (3, u "REPL"), (0, u "C"), (2, u "LATIN1"), (1, u "UTF16"), (105, u "(Ljava/lang/StringBuilder;)V")] 217

def k9m0 : Method := { name := "<init>", desc := "()V", sig := { parameters := [], returnType := none }, accessFlags := 1, code := none }
def k9c1 : Code := { maxStack := 3, maxLocals := 2, code := jdk_42_method_53_code, exceptionTable := #[], attributes := #[] }
def k9m1 : Method := { name := "<init>", desc := "(Ljava/lang/StringBuilder;)V", sig := { parameters := [(.object "java/lang/StringBuilder")], returnType := none }, accessFlags := 1, code := some k9c1 }
def k9c2 : Code := { maxStack := 2, maxLocals := 1, code := jdk_42_method_54_code, exceptionTable := #[], attributes := #[] }
def k9m2 : Method := { name := "length", desc := "()I", sig := { parameters := [], returnType := some .int }, accessFlags := 1, code := some k9c2 }
def k9c3 : Code := { maxStack := 1, maxLocals := 1, code := jdk_42_method_55_code, exceptionTable := #[], attributes := #[] }
def k9m3 : Method := { name := "isEmpty", desc := "()Z", sig := { parameters := [], returnType := some .boolean }, accessFlags := 1, code := some k9c3 }
def k9c4 : Code := { maxStack := 5, maxLocals := 4, code := jdk_42_method_147_code, exceptionTable := #[], attributes := #[] }
def k9m4 : Method := { name := "getBytes", desc := "([BIB)V", sig := { parameters := [(.array .byte), .int, .byte], returnType := none }, accessFlags := 0, code := some k9c4 }
def k9c5 : Code := { maxStack := 5, maxLocals := 5, code := jdk_42_method_150_code, exceptionTable := #[], attributes := #[] }
def k9m5 : Method := { name := "<init>", desc := "(Ljava/lang/AbstractStringBuilder;Ljava/lang/Void;)V", sig := { parameters := [(.object "java/lang/AbstractStringBuilder"), (.object "java/lang/Void")], returnType := none }, accessFlags := 0, code := some k9c5 }
def k9c6 : Code := { maxStack := 1, maxLocals := 1, code := jdk_42_method_152_code, exceptionTable := #[], attributes := #[] }
def k9m6 : Method := { name := "coder", desc := "()B", sig := { parameters := [], returnType := some .byte }, accessFlags := 0, code := some k9c6 }
/-- java/lang/String -/
def k9 : Class := { plain "java/lang/String" (some 0) with
  accessFlags := 49
  interfaces := #[4, 5, 6, 7, 8]
  cf := some (fileOf pool9 10 #[.nestMembers #[1103]] #[{ accessFlags := 1, nameIndex := 5, descriptorIndex := 6, attributes := #[] }, { accessFlags := 1, nameIndex := 5, descriptorIndex := 1233, attributes := #[] }, { accessFlags := 1, nameIndex := 507, descriptorIndex := 334, attributes := #[] }, { accessFlags := 1, nameIndex := 692, descriptorIndex := 142, attributes := #[] }, { accessFlags := 0, nameIndex := 532, descriptorIndex := 821, attributes := #[] }, { accessFlags := 0, nameIndex := 5, descriptorIndex := 491, attributes := #[] }, { accessFlags := 0, nameIndex := 17, descriptorIndex := 337, attributes := #[] }] 49 2 #[1106, 1108, 575, 1110, 1112] #[{ accessFlags := 18, nameIndex := 13, descriptorIndex := 14, attributes := #[] }, { accessFlags := 18, nameIndex := 17, descriptorIndex := 18, attributes := #[] }, { accessFlags := 2, nameIndex := 21, descriptorIndex := 22, attributes := #[] }, { accessFlags := 2, nameIndex := 25, descriptorIndex := 26, attributes := #[] }, { accessFlags := 26, nameIndex := 1116, descriptorIndex := 1117, attributes := #[] }, { accessFlags := 24, nameIndex := 40, descriptorIndex := 26, attributes := #[] }, { accessFlags := 26, nameIndex := 1101, descriptorIndex := 1102, attributes := #[] }, { accessFlags := 26, nameIndex := 1121, descriptorIndex := 1122, attributes := #[] }, { accessFlags := 25, nameIndex := 599, descriptorIndex := 600, attributes := #[] }, { accessFlags := 24, nameIndex := 1125, descriptorIndex := 18, attributes := #[] }, { accessFlags := 24, nameIndex := 1127, descriptorIndex := 18, attributes := #[] }])
  fields := #[{ name := "value", type := (.array .byte), accessFlags := 18, slot := 0, constantValue := 0 }, { name := "coder", type := .byte, accessFlags := 18, slot := 1, constantValue := 0 }, { name := "hash", type := .int, accessFlags := 2, slot := 2, constantValue := 0 }, { name := "hashIsZero", type := .boolean, accessFlags := 2, slot := 3, constantValue := 0 }, { name := "serialVersionUID", type := .long, accessFlags := 26, slot := 0, constantValue := 0 }, { name := "COMPACT_STRINGS", type := .boolean, accessFlags := 24, slot := 1, constantValue := 0 }, { name := "serialPersistentFields", type := (.array (.object "java/io/ObjectStreamField")), accessFlags := 26, slot := 2, constantValue := 0 }, { name := "REPL", type := .char, accessFlags := 26, slot := 3, constantValue := 0 }, { name := "CASE_INSENSITIVE_ORDER", type := (.object "java/util/Comparator"), accessFlags := 25, slot := 4, constantValue := 0 }, { name := "LATIN1", type := .byte, accessFlags := 24, slot := 5, constantValue := 0 }, { name := "UTF16", type := .byte, accessFlags := 24, slot := 6, constantValue := 0 }]
  methods := #[k9m0, k9m1, k9m2, k9m3, k9m4, k9m5, k9m6]
  instanceTypes := #[(.array .byte), .byte, .int, .boolean]
  staticTypes := #[.long, .boolean, (.array (.object "java/io/ObjectStreamField")), .char, (.object "java/util/Comparator"), .byte, .byte]
  resolved := Array.replicate 1451 none
  statics := some 0 }

def pool10 : Array CpInfo := pool [(1, .class_ 2), (0, u "java/lang/Appendable"), (0, .class_ 4), (0, u "java/lang/Object")] 9

/-- java/lang/Appendable -/
def k10 : Class := { plain "java/lang/Appendable" (some 0) with
  accessFlags := 1537
  interfaces := #[]
  cf := some (fileOf pool10 1 #[] #[] 1537 3 #[] #[])
  fields := #[]
  methods := #[]
  instanceTypes := #[]
  staticTypes := #[]
  resolved := Array.replicate 14 none
  statics := none }

def pool11 : Array CpInfo := pool [(1, .class_ 2), (0, u "java/lang/String"), (0, .methodref 4 5), (0, .class_ 6), (0, .nameAndType 7 8), (0, u "java/lang/Object"), (0, u "<init>"), (0, u "()V"), (1, .class_ 12), (1, u "java/lang/AbstractStringBuilder"), (0, u "EMPTYVALUE"), (0, u "[B"), (0, .fieldref 10 16), (0, .nameAndType 17 14), (0, u "value"), (0, .fieldref 1 19), (0, .nameAndType 20 21), (0, u "COMPACT_STRINGS"), (0, u "Z"), (0, .fieldref 10 23), (0, .nameAndType 24 25), (0, u "coder"), (0, u "B"), (6, .methodref 1 33), (0, .nameAndType 34 35), (0, u "length"), (0, u "()I"), (0, .class_ 37), (0, u "java/lang/Integer"), (1, .integer 2147483647), (0, .methodref 1 41), (0, .nameAndType 24 42), (0, u "()B"), (2, u "append"), (0, u "(Ljava/lang/String;)Ljava/lang/AbstractStringBuilder;"), (1, .class_ 49), (0, u "java/lang/CharSequence"), (19, u "(Ljava/lang/String;)V"), (5, u "maybeLatin1"), (3, .fieldref 10 80), (0, .nameAndType 81 82), (0, u "count"), (0, u "I"), (0, .methodref 10 84), (0, .nameAndType 85 86), (0, u "isLatin1"), (0, u "()Z"), (13, .methodref 10 101), (0, .nameAndType 102 103), (0, u "ensureCapacityInternal"), (0, u "(I)V"), (0, .methodref 10 105), (0, .nameAndType 106 107), (0, u "newCapacity"), (0, u "(I)I"), (0, .methodref 109 110), (0, .class_ 111), (0, .nameAndType 112 113), (0, u "java/util/Arrays"), (0, u "copyOf"), (0, u "([BI)[B"), (0, .methodref 115 116), (0, .class_ 117), (0, .nameAndType 118 119), (0, u "jdk/internal/util/ArraysSupport"), (0, u "newLength"), (0, u "(III)I"), (68, u "getChars"), (19, .methodref 10 209), (0, .nameAndType 210 211), (0, u "putStringAt"), (0, u "(ILjava/lang/String;)V"), (5, u "inflateIfNeededFor"), (2, .nameAndType 221 222), (0, u "getBytes"), (0, u "([BIB)V"), (22, .methodref 36 246), (0, .nameAndType 247 107), (0, u "stringSize"), (0, .methodref 36 249), (0, .nameAndType 188 250), (0, u "(II[B)I"), (146, .methodref 10 398), (0, .nameAndType 217 69), (0, .methodref 1 220), (3, u "()[B"), (40, .class_ 445), (0, u "java/lang/Appendable"), (65, u "(I)Ljava/lang/AbstractStringBuilder;"), (40, u "getValue")] 56

def k11m0 : Method := { name := "<init>", desc := "()V", sig := { parameters := [], returnType := none }, accessFlags := 0, code := none }
def k11c1 : Code := { maxStack := 2, maxLocals := 2, code := jdk_68_method_2_code, exceptionTable := #[], attributes := #[] }
def k11m1 : Method := { name := "<init>", desc := "(I)V", sig := { parameters := [.int], returnType := none }, accessFlags := 0, code := some k11c1 }
def k11c2 : Code := { maxStack := 1, maxLocals := 1, code := jdk_68_method_6_code, exceptionTable := #[], attributes := #[] }
def k11m2 : Method := { name := "length", desc := "()I", sig := { parameters := [], returnType := some .int }, accessFlags := 1, code := some k11c2 }
def k11c3 : Code := { maxStack := 4, maxLocals := 3, code := jdk_68_method_9_code, exceptionTable := #[], attributes := #[] }
def k11m3 : Method := { name := "ensureCapacityInternal", desc := "(I)V", sig := { parameters := [.int], returnType := none }, accessFlags := 2, code := some k11c3 }
def k11c4 : Code := { maxStack := 5, maxLocals := 6, code := jdk_68_method_10_code, exceptionTable := #[], attributes := #[] }
def k11m4 : Method := { name := "newCapacity", desc := "(I)I", sig := { parameters := [.int], returnType := some .int }, accessFlags := 2, code := some k11c4 }
def k11c5 : Code := { maxStack := 3, maxLocals := 3, code := jdk_68_method_22_code, exceptionTable := #[], attributes := #[] }
def k11m5 : Method := { name := "append", desc := "(Ljava/lang/String;)Ljava/lang/AbstractStringBuilder;", sig := { parameters := [(.object "java/lang/String")], returnType := some (.object "java/lang/AbstractStringBuilder") }, accessFlags := 1, code := some k11c5 }
def k11c6 : Code := { maxStack := 4, maxLocals := 4, code := jdk_68_method_32_code, exceptionTable := #[], attributes := #[] }
def k11m6 : Method := { name := "append", desc := "(I)Ljava/lang/AbstractStringBuilder;", sig := { parameters := [.int], returnType := some (.object "java/lang/AbstractStringBuilder") }, accessFlags := 1, code := some k11c6 }
def k11c7 : Code := { maxStack := 1, maxLocals := 1, code := jdk_68_method_64_code, exceptionTable := #[], attributes := #[] }
def k11m7 : Method := { name := "getValue", desc := "()[B", sig := { parameters := [], returnType := some (.array .byte) }, accessFlags := 16, code := some k11c7 }
def k11c8 : Code := { maxStack := 1, maxLocals := 1, code := jdk_68_method_68_code, exceptionTable := #[], attributes := #[] }
def k11m8 : Method := { name := "isLatin1", desc := "()Z", sig := { parameters := [], returnType := some .boolean }, accessFlags := 16, code := some k11c8 }
def k11c9 : Code := { maxStack := 2, maxLocals := 2, code := jdk_68_method_71_code, exceptionTable := #[], attributes := #[] }
def k11m9 : Method := { name := "inflateIfNeededFor", desc := "(Ljava/lang/String;)V", sig := { parameters := [(.object "java/lang/String")], returnType := none }, accessFlags := 2, code := some k11c9 }
def k11c10 : Code := { maxStack := 4, maxLocals := 3, code := jdk_68_method_73_code, exceptionTable := #[], attributes := #[] }
def k11m10 : Method := { name := "putStringAt", desc := "(ILjava/lang/String;)V", sig := { parameters := [.int, (.object "java/lang/String")], returnType := none }, accessFlags := 2, code := some k11c10 }
/-- java/lang/AbstractStringBuilder -/
def k11 : Class := { plain "java/lang/AbstractStringBuilder" (some 0) with
  accessFlags := 1056
  interfaces := #[10, 6]
  cf := some (fileOf pool11 10 #[] #[{ accessFlags := 0, nameIndex := 7, descriptorIndex := 8, attributes := #[] }, { accessFlags := 0, nameIndex := 7, descriptorIndex := 103, attributes := #[] }, { accessFlags := 1, nameIndex := 34, descriptorIndex := 35, attributes := #[] }, { accessFlags := 2, nameIndex := 102, descriptorIndex := 103, attributes := #[] }, { accessFlags := 2, nameIndex := 106, descriptorIndex := 107, attributes := #[] }, { accessFlags := 1, nameIndex := 45, descriptorIndex := 46, attributes := #[] }, { accessFlags := 1, nameIndex := 45, descriptorIndex := 511, attributes := #[] }, { accessFlags := 16, nameIndex := 552, descriptorIndex := 403, attributes := #[] }, { accessFlags := 16, nameIndex := 85, descriptorIndex := 86, attributes := #[] }, { accessFlags := 2, nameIndex := 217, descriptorIndex := 69, attributes := #[] }, { accessFlags := 2, nameIndex := 210, descriptorIndex := 211, attributes := #[] }] 1056 4 #[444, 48] #[{ accessFlags := 0, nameIndex := 17, descriptorIndex := 14, attributes := #[] }, { accessFlags := 0, nameIndex := 24, descriptorIndex := 25, attributes := #[] }, { accessFlags := 0, nameIndex := 75, descriptorIndex := 21, attributes := #[] }, { accessFlags := 0, nameIndex := 81, descriptorIndex := 82, attributes := #[] }, { accessFlags := 26, nameIndex := 13, descriptorIndex := 14, attributes := #[] }])
  fields := #[{ name := "value", type := (.array .byte), accessFlags := 0, slot := 0, constantValue := 0 }, { name := "coder", type := .byte, accessFlags := 0, slot := 1, constantValue := 0 }, { name := "maybeLatin1", type := .boolean, accessFlags := 0, slot := 2, constantValue := 0 }, { name := "count", type := .int, accessFlags := 0, slot := 3, constantValue := 0 }, { name := "EMPTYVALUE", type := (.array .byte), accessFlags := 26, slot := 0, constantValue := 0 }]
  methods := #[k11m0, k11m1, k11m2, k11m3, k11m4, k11m5, k11m6, k11m7, k11m8, k11m9, k11m10]
  instanceTypes := #[(.array .byte), .byte, .boolean, .int]
  staticTypes := #[(.array .byte)]
  resolved := Array.replicate 609 none
  statics := none }

def pool12 : Array CpInfo := pool [(1, .methodref 2 3), (0, .class_ 4), (0, .nameAndType 5 6), (0, u "java/lang/AbstractStringBuilder"), (0, u "<init>"), (0, u "(I)V"), (11, .class_ 20), (1, u "java/lang/String"), (3, .class_ 26), (1, u "java/lang/StringBuilder"), (0, u "append"), (0, u "(Ljava/lang/String;)Ljava/lang/StringBuilder;"), (0, .methodref 2 30), (0, .nameAndType 27 31), (0, u "(Ljava/lang/String;)Ljava/lang/AbstractStringBuilder;"), (21, .methodref 2 54), (0, .nameAndType 27 55), (0, u "(I)Ljava/lang/AbstractStringBuilder;"), (81, .methodref 18 138), (0, .nameAndType 5 139), (0, u "(Ljava/lang/StringBuilder;)V"), (5, u "()V"), (10, u "()I"), (111, u "(I)Ljava/lang/StringBuilder;"), (74, .methodref 2 344), (0, .nameAndType 345 156), (0, u "length"), (3, .class_ 350), (0, u "java/lang/Appendable"), (0, .class_ 352), (0, u "java/io/Serializable"), (0, .class_ 354), (0, u "java/lang/Comparable"), (0, .class_ 356), (0, u "java/lang/CharSequence"), (0, u "serialVersionUID"), (0, u "J"), (40, u "toString"), (0, u "()Ljava/lang/String;")] 21

def k12c0 : Code := { maxStack := 2, maxLocals := 1, code := jdk_67_method_1_code, exceptionTable := #[], attributes := #[] }
def k12m0 : Method := { name := "<init>", desc := "()V", sig := { parameters := [], returnType := none }, accessFlags := 1, code := some k12c0 }
def k12c1 : Code := { maxStack := 2, maxLocals := 2, code := jdk_67_method_7_code, exceptionTable := #[], attributes := #[] }
def k12m1 : Method := { name := "append", desc := "(Ljava/lang/String;)Ljava/lang/StringBuilder;", sig := { parameters := [(.object "java/lang/String")], returnType := some (.object "java/lang/StringBuilder") }, accessFlags := 1, code := some k12c1 }
def k12c2 : Code := { maxStack := 2, maxLocals := 2, code := jdk_67_method_15_code, exceptionTable := #[], attributes := #[] }
def k12m2 : Method := { name := "append", desc := "(I)Ljava/lang/StringBuilder;", sig := { parameters := [.int], returnType := some (.object "java/lang/StringBuilder") }, accessFlags := 1, code := some k12c2 }
def k12c3 : Code := { maxStack := 3, maxLocals := 1, code := jdk_67_method_42_code, exceptionTable := #[], attributes := #[] }
def k12m3 : Method := { name := "toString", desc := "()Ljava/lang/String;", sig := { parameters := [], returnType := some (.object "java/lang/String") }, accessFlags := 1, code := some k12c3 }
def k12c4 : Code := { maxStack := 1, maxLocals := 1, code := jdk_67_method_93_code, exceptionTable := #[], attributes := #[] }
def k12m4 : Method := { name := "length", desc := "()I", sig := { parameters := [], returnType := some .int }, accessFlags := 4161, code := some k12c4 }
/-- java/lang/StringBuilder -/
def k12 : Class := { plain "java/lang/StringBuilder" (some 11) with
  accessFlags := 49
  interfaces := #[10, 4, 5, 6]
  cf := some (fileOf pool12 24 #[] #[{ accessFlags := 1, nameIndex := 5, descriptorIndex := 145, attributes := #[] }, { accessFlags := 1, nameIndex := 27, descriptorIndex := 28, attributes := #[] }, { accessFlags := 1, nameIndex := 27, descriptorIndex := 268, attributes := #[] }, { accessFlags := 1, nameIndex := 399, descriptorIndex := 400, attributes := #[] }, { accessFlags := 4161, nameIndex := 345, descriptorIndex := 156, attributes := #[] }] 49 2 #[349, 351, 353, 355] #[{ accessFlags := 24, nameIndex := 357, descriptorIndex := 358, attributes := #[] }])
  fields := #[{ name := "serialVersionUID", type := .long, accessFlags := 24, slot := 0, constantValue := 0 }]
  methods := #[k12m0, k12m1, k12m2, k12m3, k12m4]
  instanceTypes := #[(.array .byte), .byte, .boolean, .int]
  staticTypes := #[.long]
  resolved := Array.replicate 422 none
  statics := none }

def pool13 : Array CpInfo := pool [(9, u "<init>"), (6, .class_ 18), (1, u "java/lang/Object"), (0, u "()V"), (1, .class_ 23), (1, u "jdk/internal/util/ArraysSupport"), (0, u "LOG2_ARRAY_LONG_INDEX_SCALE"), (0, u "I"), (2, u "U"), (0, u "Ljdk/internal/misc/Unsafe;"), (8, u "BIG_ENDIAN"), (0, u "Z"), (8, u "LOG2_BYTE_BIT_SIZE"), (4, u "LOG2_ARRAY_INT_INDEX_SCALE"), (54, u "JLA"), (0, u "Ljdk/internal/access/JavaLangAccess;"), (11, u "LOG2_ARRAY_BOOLEAN_INDEX_SCALE"), (9, u "LOG2_ARRAY_BYTE_INDEX_SCALE"), (5, u "LOG2_ARRAY_CHAR_INDEX_SCALE"), (5, u "LOG2_ARRAY_SHORT_INDEX_SCALE"), (18, u "LOG2_ARRAY_FLOAT_INDEX_SCALE"), (24, u "LOG2_ARRAY_DOUBLE_INDEX_SCALE"), (6, .methodref 195 196), (0, .class_ 197), (0, .nameAndType 198 199), (0, u "java/lang/Math"), (0, u "max"), (0, u "(II)I"), (0, .integer 2147483639), (76, u "T_BOOLEAN"), (2, u "T_CHAR"), (1, u "T_FLOAT"), (1, u "T_DOUBLE"), (1, u "T_BYTE"), (1, u "T_SHORT"), (1, u "T_INT"), (1, u "T_LONG"), (1, u "SOFT_MAX_ARRAY_LENGTH"), (56, u "newLength"), (0, u "(III)I")] 25

def k13m0 : Method := { name := "<init>", desc := "()V", sig := { parameters := [], returnType := none }, accessFlags := 2, code := none }
def k13c1 : Code := { maxStack := 3, maxLocals := 4, code := jdk_48_method_27_code, exceptionTable := #[], attributes := #[] }
def k13m1 : Method := { name := "newLength", desc := "(III)I", sig := { parameters := [.int, .int, .int], returnType := some .int }, accessFlags := 9, code := some k13c1 }
/-- jdk/internal/util/ArraysSupport -/
def k13 : Class := { plain "jdk/internal/util/ArraysSupport" (some 0) with
  accessFlags := 33
  interfaces := #[]
  cf := some (fileOf pool13 21 #[] #[{ accessFlags := 2, nameIndex := 9, descriptorIndex := 19, attributes := #[] }, { accessFlags := 9, nameIndex := 351, descriptorIndex := 352, attributes := #[] }] 33 16 #[] #[{ accessFlags := 24, nameIndex := 28, descriptorIndex := 29, attributes := #[] }, { accessFlags := 26, nameIndex := 38, descriptorIndex := 39, attributes := #[] }, { accessFlags := 25, nameIndex := 121, descriptorIndex := 25, attributes := #[] }, { accessFlags := 25, nameIndex := 131, descriptorIndex := 25, attributes := #[] }, { accessFlags := 25, nameIndex := 137, descriptorIndex := 25, attributes := #[] }, { accessFlags := 25, nameIndex := 143, descriptorIndex := 25, attributes := #[] }, { accessFlags := 25, nameIndex := 53, descriptorIndex := 25, attributes := #[] }, { accessFlags := 25, nameIndex := 24, descriptorIndex := 25, attributes := #[] }, { accessFlags := 25, nameIndex := 162, descriptorIndex := 25, attributes := #[] }, { accessFlags := 25, nameIndex := 187, descriptorIndex := 25, attributes := #[] }, { accessFlags := 26, nameIndex := 48, descriptorIndex := 25, attributes := #[] }, { accessFlags := 25, nameIndex := 277, descriptorIndex := 25, attributes := #[] }, { accessFlags := 25, nameIndex := 280, descriptorIndex := 25, attributes := #[] }, { accessFlags := 25, nameIndex := 282, descriptorIndex := 25, attributes := #[] }, { accessFlags := 25, nameIndex := 284, descriptorIndex := 25, attributes := #[] }, { accessFlags := 25, nameIndex := 286, descriptorIndex := 25, attributes := #[] }, { accessFlags := 25, nameIndex := 288, descriptorIndex := 25, attributes := #[] }, { accessFlags := 25, nameIndex := 290, descriptorIndex := 25, attributes := #[] }, { accessFlags := 25, nameIndex := 292, descriptorIndex := 25, attributes := #[] }, { accessFlags := 26, nameIndex := 108, descriptorIndex := 109, attributes := #[] }, { accessFlags := 25, nameIndex := 294, descriptorIndex := 25, attributes := #[] }])
  fields := #[{ name := "U", type := (.object "jdk/internal/misc/Unsafe"), accessFlags := 24, slot := 0, constantValue := 0 }, { name := "BIG_ENDIAN", type := .boolean, accessFlags := 26, slot := 1, constantValue := 0 }, { name := "LOG2_ARRAY_BOOLEAN_INDEX_SCALE", type := .int, accessFlags := 25, slot := 2, constantValue := 0 }, { name := "LOG2_ARRAY_BYTE_INDEX_SCALE", type := .int, accessFlags := 25, slot := 3, constantValue := 0 }, { name := "LOG2_ARRAY_CHAR_INDEX_SCALE", type := .int, accessFlags := 25, slot := 4, constantValue := 0 }, { name := "LOG2_ARRAY_SHORT_INDEX_SCALE", type := .int, accessFlags := 25, slot := 5, constantValue := 0 }, { name := "LOG2_ARRAY_INT_INDEX_SCALE", type := .int, accessFlags := 25, slot := 6, constantValue := 0 }, { name := "LOG2_ARRAY_LONG_INDEX_SCALE", type := .int, accessFlags := 25, slot := 7, constantValue := 0 }, { name := "LOG2_ARRAY_FLOAT_INDEX_SCALE", type := .int, accessFlags := 25, slot := 8, constantValue := 0 }, { name := "LOG2_ARRAY_DOUBLE_INDEX_SCALE", type := .int, accessFlags := 25, slot := 9, constantValue := 0 }, { name := "LOG2_BYTE_BIT_SIZE", type := .int, accessFlags := 26, slot := 10, constantValue := 0 }, { name := "T_BOOLEAN", type := .int, accessFlags := 25, slot := 11, constantValue := 0 }, { name := "T_CHAR", type := .int, accessFlags := 25, slot := 12, constantValue := 0 }, { name := "T_FLOAT", type := .int, accessFlags := 25, slot := 13, constantValue := 0 }, { name := "T_DOUBLE", type := .int, accessFlags := 25, slot := 14, constantValue := 0 }, { name := "T_BYTE", type := .int, accessFlags := 25, slot := 15, constantValue := 0 }, { name := "T_SHORT", type := .int, accessFlags := 25, slot := 16, constantValue := 0 }, { name := "T_INT", type := .int, accessFlags := 25, slot := 17, constantValue := 0 }, { name := "T_LONG", type := .int, accessFlags := 25, slot := 18, constantValue := 0 }, { name := "JLA", type := (.object "jdk/internal/access/JavaLangAccess"), accessFlags := 26, slot := 19, constantValue := 0 }, { name := "SOFT_MAX_ARRAY_LENGTH", type := .int, accessFlags := 25, slot := 20, constantValue := 0 }]
  methods := #[k13m0, k13m1]
  instanceTypes := #[]
  staticTypes := #[(.object "jdk/internal/misc/Unsafe"), .boolean, .int, .int, .int, .int, .int, .int, .int, .int, .int, .int, .int, .int, .int, .int, .int, .int, .int, (.object "jdk/internal/access/JavaLangAccess"), .int]
  resolved := Array.replicate 378 none
  statics := none }

def pool14 : Array CpInfo := pool [(1, .class_ 2), (0, u "java/lang/Math"), (1, .class_ 6), (1, u "java/lang/Object"), (0, u "<init>"), (0, u "()V"), (89, .class_ 100), (1, u "java/lang/Math$RandomNumberGeneratorHolder"), (71, u "negativeZeroFloatBits"), (0, u "J"), (2, u "negativeZeroDoubleBits"), (21, u "max"), (2, u "min"), (43, u "$assertionsDisabled"), (0, u "Z"), (88, u "(II)I"), (2, u "twoToTheDoubleScaleDown"), (0, u "D"), (4, u "twoToTheDoubleScaleUp"), (9, u "E"), (3, u "PI"), (2, u "TAU"), (2, u "DEGREES_TO_RADIANS"), (0, u "RADIANS_TO_DEGREES")] 94

def k14m0 : Method := { name := "<init>", desc := "()V", sig := { parameters := [], returnType := none }, accessFlags := 2, code := none }
def k14c1 : Code := { maxStack := 2, maxLocals := 2, code := jdk_29_method_65_code, exceptionTable := #[], attributes := #[] }
def k14m1 : Method := { name := "max", desc := "(II)I", sig := { parameters := [.int, .int], returnType := some .int }, accessFlags := 9, code := some k14c1 }
def k14c2 : Code := { maxStack := 2, maxLocals := 2, code := jdk_29_method_69_code, exceptionTable := #[], attributes := #[] }
def k14m2 : Method := { name := "min", desc := "(II)I", sig := { parameters := [.int, .int], returnType := some .int }, accessFlags := 9, code := some k14c2 }
/-- java/lang/Math -/
def k14 : Class := { plain "java/lang/Math" (some 0) with
  accessFlags := 49
  interfaces := #[]
  cf := some (fileOf pool14 1 #[.nestMembers #[98]] #[{ accessFlags := 2, nameIndex := 7, descriptorIndex := 8, attributes := #[] }, { accessFlags := 9, nameIndex := 198, descriptorIndex := 335, attributes := #[] }, { accessFlags := 9, nameIndex := 201, descriptorIndex := 335, attributes := #[] }] 49 4 #[] #[{ accessFlags := 25, nameIndex := 354, descriptorIndex := 339, attributes := #[] }, { accessFlags := 25, nameIndex := 358, descriptorIndex := 339, attributes := #[] }, { accessFlags := 25, nameIndex := 361, descriptorIndex := 339, attributes := #[] }, { accessFlags := 26, nameIndex := 364, descriptorIndex := 339, attributes := #[] }, { accessFlags := 26, nameIndex := 365, descriptorIndex := 339, attributes := #[] }, { accessFlags := 26, nameIndex := 172, descriptorIndex := 173, attributes := #[] }, { accessFlags := 26, nameIndex := 176, descriptorIndex := 173, attributes := #[] }, { accessFlags := 8, nameIndex := 344, descriptorIndex := 339, attributes := #[] }, { accessFlags := 8, nameIndex := 338, descriptorIndex := 339, attributes := #[] }, { accessFlags := 4120, nameIndex := 245, descriptorIndex := 246, attributes := #[] }])
  fields := #[{ name := "E", type := .double, accessFlags := 25, slot := 0, constantValue := 0 }, { name := "PI", type := .double, accessFlags := 25, slot := 1, constantValue := 0 }, { name := "TAU", type := .double, accessFlags := 25, slot := 2, constantValue := 0 }, { name := "DEGREES_TO_RADIANS", type := .double, accessFlags := 26, slot := 3, constantValue := 0 }, { name := "RADIANS_TO_DEGREES", type := .double, accessFlags := 26, slot := 4, constantValue := 0 }, { name := "negativeZeroFloatBits", type := .long, accessFlags := 26, slot := 5, constantValue := 0 }, { name := "negativeZeroDoubleBits", type := .long, accessFlags := 26, slot := 6, constantValue := 0 }, { name := "twoToTheDoubleScaleUp", type := .double, accessFlags := 8, slot := 7, constantValue := 0 }, { name := "twoToTheDoubleScaleDown", type := .double, accessFlags := 8, slot := 8, constantValue := 0 }, { name := "$assertionsDisabled", type := .boolean, accessFlags := 4120, slot := 9, constantValue := 0 }]
  methods := #[k14m0, k14m1, k14m2]
  instanceTypes := #[]
  staticTypes := #[.double, .double, .double, .double, .double, .long, .long, .double, .double, .boolean]
  resolved := Array.replicate 460 none
  statics := none }

def pool15 : Array CpInfo := pool [(2, .class_ 4), (1, u "java/lang/Object"), (0, u "<init>"), (0, u "()V"), (7, .class_ 16), (1, u "java/util/Arrays"), (57, .class_ 76), (1, u "java/util/Arrays$NaturalOrder"), (36, .class_ 115), (1, u "java/util/Arrays$LegacyMergeSort"), (1, u "Z"), (21, u "copyOfRange"), (10, .methodref 151 152), (0, .class_ 153), (0, .nameAndType 154 155), (0, u "java/lang/System"), (0, u "arraycopy"), (0, u "(Ljava/lang/Object;ILjava/lang/Object;II)V"), (146, u "copyOf"), (1, .methodref 305 306), (0, .class_ 307), (0, .nameAndType 308 309), (0, u "java/lang/Math"), (0, u "min"), (0, u "(II)I"), (29, .methodref 14 340), (0, .nameAndType 341 342), (0, u "copyOfRangeByte"), (0, u "([BII)[B"), (0, .methodref 14 344), (0, .nameAndType 345 346), (0, u "checkLength"), (0, u "(II)V"), (28, .class_ 376), (0, u "java/util/Arrays$ArrayList"), (68, u "$assertionsDisabled"), (269, u "MIN_ARRAY_SORT_GRAN"), (0, u "I"), (2, u "INSERTIONSORT_THRESHOLD"), (149, u "([BI)[B"), (105, .class_ 976), (0, u "java/util/Arrays$ArrayItr")] 52

def k15m0 : Method := { name := "<init>", desc := "()V", sig := { parameters := [], returnType := none }, accessFlags := 2, code := none }
def k15c1 : Code := { maxStack := 6, maxLocals := 3, code := jdk_65_method_121_code, exceptionTable := #[], attributes := #[] }
def k15m1 : Method := { name := "copyOf", desc := "([BI)[B", sig := { parameters := [(.array .byte), .int], returnType := some (.array .byte) }, accessFlags := 9, code := some k15c1 }
def k15c2 : Code := { maxStack := 4, maxLocals := 2, code := jdk_65_method_131_code, exceptionTable := #[], attributes := #[] }
def k15m2 : Method := { name := "checkLength", desc := "(II)V", sig := { parameters := [.int, .int], returnType := none }, accessFlags := 10, code := some k15c2 }
def k15c3 : Code := { maxStack := 3, maxLocals := 3, code := jdk_65_method_132_code, exceptionTable := #[], attributes := #[] }
def k15m3 : Method := { name := "copyOfRange", desc := "([BII)[B", sig := { parameters := [(.array .byte), .int, .int], returnType := some (.array .byte) }, accessFlags := 9, code := some k15c3 }
def k15c4 : Code := { maxStack := 6, maxLocals := 5, code := jdk_65_method_133_code, exceptionTable := #[], attributes := #[] }
def k15m4 : Method := { name := "copyOfRangeByte", desc := "([BII)[B", sig := { parameters := [(.array .byte), .int, .int], returnType := some (.array .byte) }, accessFlags := 10, code := some k15c4 }
/-- java/util/Arrays -/
def k15 : Class := { plain "java/util/Arrays" (some 0) with
  accessFlags := 49
  interfaces := #[]
  cf := some (fileOf pool15 14 #[.nestMembers #[975, 375, 113, 74]] #[{ accessFlags := 2, nameIndex := 5, descriptorIndex := 6, attributes := #[] }, { accessFlags := 9, nameIndex := 302, descriptorIndex := 869, attributes := #[] }, { accessFlags := 10, nameIndex := 345, descriptorIndex := 346, attributes := #[] }, { accessFlags := 9, nameIndex := 139, descriptorIndex := 342, attributes := #[] }, { accessFlags := 10, nameIndex := 341, descriptorIndex := 342, attributes := #[] }] 49 2 #[] #[{ accessFlags := 26, nameIndex := 715, descriptorIndex := 716, attributes := #[] }, { accessFlags := 26, nameIndex := 719, descriptorIndex := 716, attributes := #[] }, { accessFlags := 4120, nameIndex := 445, descriptorIndex := 117, attributes := #[] }])
  fields := #[{ name := "MIN_ARRAY_SORT_GRAN", type := .int, accessFlags := 26, slot := 0, constantValue := 0 }, { name := "INSERTIONSORT_THRESHOLD", type := .int, accessFlags := 26, slot := 1, constantValue := 0 }, { name := "$assertionsDisabled", type := .boolean, accessFlags := 4120, slot := 2, constantValue := 0 }]
  methods := #[k15m0, k15m1, k15m2, k15m3, k15m4]
  instanceTypes := #[]
  staticTypes := #[.int, .int, .boolean]
  resolved := Array.replicate 1029 none
  statics := none }

def pool16 : Array CpInfo := pool [(2, .class_ 4), (1, u "java/lang/Object"), (0, u "<init>"), (0, u "()V"), (1, .class_ 10), (1, u "java/lang/System"), (0, u "allowSecurityManager"), (0, u "I"), (16, u "cons"), (0, u "Ljava/io/Console;"), (77, .class_ 110), (1, u "java/lang/System$CallersHolder"), (43, u "initialErrStream"), (0, u "Ljava/io/PrintStream;"), (19, u "security"), (0, u "Ljava/lang/SecurityManager;"), (31, .class_ 209), (0, u "java/lang/System$1"), (7, u "props"), (0, u "Ljava/util/Properties;"), (2, u "lineSeparator"), (0, u "Ljava/lang/String;"), (96, .class_ 321), (1, u "java/lang/System$LoggerFinder"), (5, .class_ 328), (0, u "java/lang/System$Logger"), (67, u "err"), (2, u "out"), (91, u "notSupportedJnuEncoding"), (15, u "in"), (17, u "initialIn"), (0, u "Ljava/io/InputStream;"), (35, u "bootLayer"), (0, u "Ljava/lang/ModuleLayer;"), (99, .class_ 664), (0, u "java/lang/System$2"), (9, u "NEVER"), (2, u "MAYBE"), (49, u "arraycopy"), (0, u "(Ljava/lang/Object;ILjava/lang/Object;II)V"), (72, .class_ 802), (0, u "java/lang/System$Logger$Level")] 31

def k16m0 : Method := { name := "<init>", desc := "()V", sig := { parameters := [], returnType := none }, accessFlags := 2, code := none }
def k16m1 : Method := { name := "arraycopy", desc := "(Ljava/lang/Object;ILjava/lang/Object;II)V", sig := { parameters := [(.object "java/lang/Object"), .int, (.object "java/lang/Object"), .int, .int], returnType := none }, accessFlags := 265, code := none }
/-- java/lang/System -/
def k16 : Class := { plain "java/lang/System" (some 0) with
  accessFlags := 49
  interfaces := #[]
  cf := some (fileOf pool16 8 #[.nestMembers #[319, 327, 801, 108, 663, 208]] #[{ accessFlags := 2, nameIndex := 5, descriptorIndex := 6, attributes := #[] }, { accessFlags := 265, nameIndex := 727, descriptorIndex := 728, attributes := #[] }] 49 2 #[] #[{ accessFlags := 25, nameIndex := 507, descriptorIndex := 526, attributes := #[] }, { accessFlags := 25, nameIndex := 399, descriptorIndex := 155, attributes := #[] }, { accessFlags := 25, nameIndex := 396, descriptorIndex := 155, attributes := #[] }, { accessFlags := 10, nameIndex := 525, descriptorIndex := 526, attributes := #[] }, { accessFlags := 26, nameIndex := 674, descriptorIndex := 12, attributes := #[] }, { accessFlags := 26, nameIndex := 677, descriptorIndex := 12, attributes := #[] }, { accessFlags := 10, nameIndex := 11, descriptorIndex := 12, attributes := #[] }, { accessFlags := 74, nameIndex := 175, descriptorIndex := 176, attributes := #[] }, { accessFlags := 10, nameIndex := 491, descriptorIndex := 222, attributes := #[] }, { accessFlags := 74, nameIndex := 29, descriptorIndex := 30, attributes := #[] }, { accessFlags := 74, nameIndex := 154, descriptorIndex := 155, attributes := #[] }, { accessFlags := 10, nameIndex := 217, descriptorIndex := 218, attributes := #[] }, { accessFlags := 10, nameIndex := 221, descriptorIndex := 222, attributes := #[] }, { accessFlags := 8, nameIndex := 562, descriptorIndex := 563, attributes := #[] }])
  fields := #[{ name := "in", type := (.object "java/io/InputStream"), accessFlags := 25, slot := 0, constantValue := 0 }, { name := "out", type := (.object "java/io/PrintStream"), accessFlags := 25, slot := 1, constantValue := 0 }, { name := "err", type := (.object "java/io/PrintStream"), accessFlags := 25, slot := 2, constantValue := 0 }, { name := "initialIn", type := (.object "java/io/InputStream"), accessFlags := 10, slot := 3, constantValue := 0 }, { name := "NEVER", type := .int, accessFlags := 26, slot := 4, constantValue := 0 }, { name := "MAYBE", type := .int, accessFlags := 26, slot := 5, constantValue := 0 }, { name := "allowSecurityManager", type := .int, accessFlags := 10, slot := 6, constantValue := 0 }, { name := "security", type := (.object "java/lang/SecurityManager"), accessFlags := 74, slot := 7, constantValue := 0 }, { name := "notSupportedJnuEncoding", type := (.object "java/lang/String"), accessFlags := 10, slot := 8, constantValue := 0 }, { name := "cons", type := (.object "java/io/Console"), accessFlags := 74, slot := 9, constantValue := 0 }, { name := "initialErrStream", type := (.object "java/io/PrintStream"), accessFlags := 74, slot := 10, constantValue := 0 }, { name := "props", type := (.object "java/util/Properties"), accessFlags := 10, slot := 11, constantValue := 0 }, { name := "lineSeparator", type := (.object "java/lang/String"), accessFlags := 10, slot := 12, constantValue := 0 }, { name := "bootLayer", type := (.object "java/lang/ModuleLayer"), accessFlags := 8, slot := 13, constantValue := 0 }]
  methods := #[k16m0, k16m1]
  instanceTypes := #[]
  staticTypes := #[(.object "java/io/InputStream"), (.object "java/io/PrintStream"), (.object "java/io/PrintStream"), (.object "java/io/InputStream"), .int, .int, .int, (.object "java/lang/SecurityManager"), (.object "java/lang/String"), (.object "java/io/Console"), (.object "java/io/PrintStream"), (.object "java/util/Properties"), (.object "java/lang/String"), (.object "java/lang/ModuleLayer")]
  resolved := Array.replicate 834 none
  statics := none }

def pool17 : Array CpInfo := pool [(2, .class_ 4), (1, u "java/lang/Object"), (0, u "<init>"), (0, u "()V"), (1, .class_ 10), (1, u "java/lang/Number"), (2, .class_ 14), (0, u "java/io/Serializable"), (0, u "serialVersionUID"), (0, u "J")] 20

def k17m0 : Method := { name := "<init>", desc := "()V", sig := { parameters := [], returnType := none }, accessFlags := 1, code := none }
/-- java/lang/Number -/
def k17 : Class := { plain "java/lang/Number" (some 0) with
  accessFlags := 1057
  interfaces := #[4]
  cf := some (fileOf pool17 8 #[] #[{ accessFlags := 1, nameIndex := 5, descriptorIndex := 6, attributes := #[] }] 1057 2 #[13] #[{ accessFlags := 26, nameIndex := 15, descriptorIndex := 16, attributes := #[] }])
  fields := #[{ name := "serialVersionUID", type := .long, accessFlags := 26, slot := 0, constantValue := 0 }]
  methods := #[k17m0]
  instanceTypes := #[]
  staticTypes := #[.long]
  resolved := Array.replicate 37 none
  statics := none }

def pool18 : Array CpInfo := pool [(1, .class_ 2), (0, u "java/lang/Integer"), (16, u "digits"), (0, u "[C"), (33, u "(I)I"), (19, u "stringSize"), (2, u "getChars"), (0, u "(II[B)I"), (4, .fieldref 1 84), (0, .nameAndType 85 86), (0, u "DigitOnes"), (0, u "[B"), (2, u "DigitTens"), (99, .class_ 190), (0, u "java/lang/Integer$IntegerCache"), (3, u "I"), (8, .class_ 204), (0, u "java/lang/Number"), (2, u "value"), (94, u "TYPE"), (0, u "Ljava/lang/Class;"), (0, .class_ 305), (0, u "java/lang/Comparable"), (0, .class_ 307), (0, u "java/lang/constant/Constable"), (0, .class_ 309), (0, u "java/lang/constant/ConstantDesc"), (0, u "MIN_VALUE"), (1, u "MAX_VALUE"), (3, u "SIZE"), (1, u "BYTES"), (1, u "serialVersionUID"), (0, u "J")] 131

def k18c0 : Code := { maxStack := 4, maxLocals := 7, code := jdk_33_method_12_code, exceptionTable := #[], attributes := #[] }
def k18m0 : Method := { name := "getChars", desc := "(II[B)I", sig := { parameters := [.int, .int, (.array .byte)], returnType := some .int }, accessFlags := 8, code := some k18c0 }
def k18c1 : Code := { maxStack := 2, maxLocals := 4, code := jdk_33_method_13_code, exceptionTable := #[], attributes := #[] }
def k18m1 : Method := { name := "stringSize", desc := "(I)I", sig := { parameters := [.int], returnType := some .int }, accessFlags := 8, code := some k18c1 }
/-- java/lang/Integer -/
def k18 : Class := { plain "java/lang/Integer" (some 17) with
  accessFlags := 49
  interfaces := #[5, 7, 8]
  cf := some (fileOf pool18 1 #[.nestMembers #[189]] #[{ accessFlags := 8, nameIndex := 77, descriptorIndex := 78, attributes := #[] }, { accessFlags := 8, nameIndex := 74, descriptorIndex := 54, attributes := #[] }] 49 203 #[304, 306, 308] #[{ accessFlags := 25, nameIndex := 310, descriptorIndex := 194, attributes := #[] }, { accessFlags := 25, nameIndex := 312, descriptorIndex := 194, attributes := #[] }, { accessFlags := 25, nameIndex := 302, descriptorIndex := 303, attributes := #[] }, { accessFlags := 24, nameIndex := 19, descriptorIndex := 20, attributes := #[] }, { accessFlags := 24, nameIndex := 89, descriptorIndex := 86, attributes := #[] }, { accessFlags := 24, nameIndex := 85, descriptorIndex := 86, attributes := #[] }, { accessFlags := 18, nameIndex := 207, descriptorIndex := 194, attributes := #[] }, { accessFlags := 25, nameIndex := 316, descriptorIndex := 194, attributes := #[] }, { accessFlags := 25, nameIndex := 318, descriptorIndex := 194, attributes := #[] }, { accessFlags := 26, nameIndex := 320, descriptorIndex := 321, attributes := #[] }])
  fields := #[{ name := "MIN_VALUE", type := .int, accessFlags := 25, slot := 0, constantValue := 0 }, { name := "MAX_VALUE", type := .int, accessFlags := 25, slot := 1, constantValue := 0 }, { name := "TYPE", type := (.object "java/lang/Class"), accessFlags := 25, slot := 2, constantValue := 0 }, { name := "digits", type := (.array .char), accessFlags := 24, slot := 3, constantValue := 0 }, { name := "DigitTens", type := (.array .byte), accessFlags := 24, slot := 4, constantValue := 0 }, { name := "DigitOnes", type := (.array .byte), accessFlags := 24, slot := 5, constantValue := 0 }, { name := "value", type := .int, accessFlags := 18, slot := 0, constantValue := 0 }, { name := "SIZE", type := .int, accessFlags := 25, slot := 6, constantValue := 0 }, { name := "BYTES", type := .int, accessFlags := 25, slot := 7, constantValue := 0 }, { name := "serialVersionUID", type := .long, accessFlags := 26, slot := 8, constantValue := 0 }]
  methods := #[k18m0, k18m1]
  instanceTypes := #[.int]
  staticTypes := #[.int, .int, (.object "java/lang/Class"), (.array .char), (.array .byte), (.array .byte), .int, .int, .long]
  resolved := Array.replicate 453 none
  statics := some 1 }

def pool19 : Array CpInfo := pool [(4, .class_ 6), (1, u "java/lang/Object"), (0, u "<init>"), (0, u "()V"), (5, .class_ 16), (1, u "java/lang/StringLatin1"), (104, u "$assertionsDisabled"), (0, u "Z"), (98, .class_ 223), (1, u "java/lang/StringLatin1$LinesSpliterator"), (166, .class_ 391), (0, u "java/lang/StringLatin1$CharsSpliterator")] 3

def k19m0 : Method := { name := "<init>", desc := "()V", sig := { parameters := [], returnType := none }, accessFlags := 0, code := none }
/-- java/lang/StringLatin1 -/
def k19 : Class := { plain "java/lang/StringLatin1" (some 0) with
  accessFlags := 48
  interfaces := #[]
  cf := some (fileOf pool19 14 #[.nestMembers #[390, 221]] #[{ accessFlags := 0, nameIndex := 7, descriptorIndex := 8, attributes := #[] }] 48 4 #[] #[{ accessFlags := 4120, nameIndex := 121, descriptorIndex := 122, attributes := #[] }])
  fields := #[{ name := "$assertionsDisabled", type := .boolean, accessFlags := 4120, slot := 0, constantValue := 0 }]
  methods := #[k19m0]
  instanceTypes := #[]
  staticTypes := #[.boolean]
  resolved := Array.replicate 395 none
  statics := none }

def pool20 : Array CpInfo := pool [(2, .class_ 4), (1, u "java/lang/Object"), (0, u "<init>"), (0, u "()V"), (17, .class_ 26), (1, u "jdk/internal/util/Preconditions"), (28, .class_ 56), (0, u "jdk/internal/util/Preconditions$4"), (57, .class_ 115), (0, u "jdk/internal/util/Preconditions$1"), (7, u "SIOOBE_FORMATTER"), (0, u "Ljava/util/function/BiFunction;"), (0, .class_ 126), (0, u "jdk/internal/util/Preconditions$2"), (3, u "AIOOBE_FORMATTER"), (0, .class_ 132), (0, u "jdk/internal/util/Preconditions$3"), (3, u "IOOBE_FORMATTER")] 57

def k20m0 : Method := { name := "<init>", desc := "()V", sig := { parameters := [], returnType := none }, accessFlags := 1, code := none }
/-- jdk/internal/util/Preconditions -/
def k20 : Class := { plain "jdk/internal/util/Preconditions" (some 0) with
  accessFlags := 33
  interfaces := #[]
  cf := some (fileOf pool20 24 #[.nestMembers #[55, 131, 125, 114]] #[{ accessFlags := 1, nameIndex := 5, descriptorIndex := 6, attributes := #[] }] 33 2 #[] #[{ accessFlags := 25, nameIndex := 123, descriptorIndex := 124, attributes := #[] }, { accessFlags := 25, nameIndex := 130, descriptorIndex := 124, attributes := #[] }, { accessFlags := 25, nameIndex := 136, descriptorIndex := 124, attributes := #[] }])
  fields := #[{ name := "SIOOBE_FORMATTER", type := (.object "java/util/function/BiFunction"), accessFlags := 25, slot := 0, constantValue := 0 }, { name := "AIOOBE_FORMATTER", type := (.object "java/util/function/BiFunction"), accessFlags := 25, slot := 1, constantValue := 0 }, { name := "IOOBE_FORMATTER", type := (.object "java/util/function/BiFunction"), accessFlags := 25, slot := 2, constantValue := 0 }]
  methods := #[k20m0]
  instanceTypes := #[]
  staticTypes := #[(.object "java/util/function/BiFunction"), (.object "java/util/function/BiFunction"), (.object "java/util/function/BiFunction")]
  resolved := Array.replicate 194 none
  statics := some 2 }

def pool21 : Array CpInfo := pool [(1, u "java/lang/Cloneable"), (0, .class_ 1), (0, u "java/lang/Object"), (0, .class_ 3)] 3

/-- java/lang/Cloneable -/
def k21 : Class := { plain "java/lang/Cloneable" (some 0) with
  accessFlags := 1537
  interfaces := #[]
  cf := some (fileOf pool21 2 #[] #[] 1537 4 #[] #[])
  fields := #[]
  methods := #[]
  instanceTypes := #[]
  staticTypes := #[]
  resolved := Array.replicate 8 none
  statics := none }

/-- the primitive byte -/
def k22 : Class := { plain "byte" none with kind := .primitive 'B', accessFlags := 0x411 }
/-- [B -/
def k23 : Class := { plain "[B" (some 0) with kind := .array 22 .byte, interfaces := #[21, 4], accessFlags := 1041 }

/-- the primitive int -/
def k24 : Class := { plain "int" none with kind := .primitive 'I', accessFlags := 0x411 }
/-- [I -/
def k25 : Class := { plain "[I" (some 0) with kind := .array 24 .int, interfaces := #[21, 4], accessFlags := 1041 }

def heap : Heap := #[{ cls := 9, slots := #[.long 0, .int 1, .null, .int 0, .null, .int 0, .int 0], vm := .statics 9 },
  { cls := 18, slots := #[.int 0, .int 0, .null, .null, .ref 4, .ref 3, .int 0, .int 0, .long 0], vm := .statics 18 },
  { cls := 20, slots := #[.null, .null, .null], vm := .statics 20 },
  { cls := 23, slots := #[.int 48, .int 49, .int 50, .int 51, .int 52, .int 53, .int 54, .int 55, .int 56, .int 57, .int 48, .int 49, .int 50, .int 51, .int 52, .int 53, .int 54, .int 55, .int 56, .int 57, .int 48, .int 49, .int 50, .int 51, .int 52, .int 53, .int 54, .int 55, .int 56, .int 57, .int 48, .int 49, .int 50, .int 51, .int 52, .int 53, .int 54, .int 55, .int 56, .int 57, .int 48, .int 49, .int 50, .int 51, .int 52, .int 53, .int 54, .int 55, .int 56, .int 57, .int 48, .int 49, .int 50, .int 51, .int 52, .int 53, .int 54, .int 55, .int 56, .int 57, .int 48, .int 49, .int 50, .int 51, .int 52, .int 53, .int 54, .int 55, .int 56, .int 57, .int 48, .int 49, .int 50, .int 51, .int 52, .int 53, .int 54, .int 55, .int 56, .int 57, .int 48, .int 49, .int 50, .int 51, .int 52, .int 53, .int 54, .int 55, .int 56, .int 57, .int 48, .int 49, .int 50, .int 51, .int 52, .int 53, .int 54, .int 55, .int 56, .int 57], vm := .none },
  { cls := 23, slots := #[.int 48, .int 48, .int 48, .int 48, .int 48, .int 48, .int 48, .int 48, .int 48, .int 48, .int 49, .int 49, .int 49, .int 49, .int 49, .int 49, .int 49, .int 49, .int 49, .int 49, .int 50, .int 50, .int 50, .int 50, .int 50, .int 50, .int 50, .int 50, .int 50, .int 50, .int 51, .int 51, .int 51, .int 51, .int 51, .int 51, .int 51, .int 51, .int 51, .int 51, .int 52, .int 52, .int 52, .int 52, .int 52, .int 52, .int 52, .int 52, .int 52, .int 52, .int 53, .int 53, .int 53, .int 53, .int 53, .int 53, .int 53, .int 53, .int 53, .int 53, .int 54, .int 54, .int 54, .int 54, .int 54, .int 54, .int 54, .int 54, .int 54, .int 54, .int 55, .int 55, .int 55, .int 55, .int 55, .int 55, .int 55, .int 55, .int 55, .int 55, .int 56, .int 56, .int 56, .int 56, .int 56, .int 56, .int 56, .int 56, .int 56, .int 56, .int 57, .int 57, .int 57, .int 57, .int 57, .int 57, .int 57, .int 57, .int 57, .int 57], vm := .none }]
def classes : Array Class := #[k0, k1, k2, k3, k4, k5, k6, k7, k8, k9, k10, k11, k12, k13, k14, k15, k16, k17, k18, k19, k20, k21, k22, k23, k24, k25]
def interned : List (Array UInt16 × Addr) := []
def slotsUsed : Nat := 219
def theMethod : MethodId := ⟨1, 1⟩
def args0 : Array Value := #[.long 5]
def aboutOver (below : List Frame) : State where
  vm := { classes := classes, interned := interned.toArray }
  heap := heap
  slotsUsed := slotsUsed
  threads := #[{ frames := .invoking theMethod args0 :: below }]
def below0 : List Frame := [.native { method := ⟨0, 0⟩, args := #[] }]
def about1 : State := aboutOver below0
def p0 : Program := .bare "" "" ""
def e0 : Env := launch0.env 0 0 0
theorem w_frames : about1.frames = Frame.invoking theMethod args0 :: below0 := rfl
set_option maxRecDepth 65536 in
theorem w_args : argsFit about1.vm theMethod args0 = true := by decide +kernel
set_option maxRecDepth 65536 in
theorem w_heap : heapFits about1 = true := by decide +kernel
set_option maxRecDepth 65536 in
theorem w_runnable : about1.curStatus? = some .runnable := by decide +kernel
set_option maxRecDepth 65536 in
theorem w_alone : about1.alone = true := by decide +kernel
set_option maxRecDepth 65536 in
theorem w_named : about1.methodNamed? x = some theMethod := by decide +kernel
set_option maxRecDepth 65536 in
theorem w_hears : about1.hears theMethod below0 = true := by decide +kernel
set_option maxRecDepth 65536 in
theorem w_ripe : about1.ripe theMethod args0 below0 = true := by decide +kernel
theorem w_running : about1.status = .running := rfl
set_option maxRecDepth 65536 in
theorem w_room : about1.hasRoom e0.platform room_1 = true :=
  launch0.hasRoom_least _ room_1 (by decide +kernel) (by decide +kernel) (by decide +kernel) (by decide +kernel) (by decide +kernel) (by decide +kernel)
theorem allAtoms_all (ts : List Jvm.Cond) (a : Array Jvm.Value) (st : Jvm.State) : (allAtoms ts).before a st = ts.all (fun c => c.before a st) := by
  induction ts with
  | nil => rfl
  | cons c t ih =>
    show (Jvm.Cond.and c (allAtoms t)).before a st = _
    rw [Jvm.Cond.before_and, ih, List.all_cons]
def words1 : List Jvm.Cond := Jvm.Cond.code x code maxLocals ret :: tables_1
/-- a 'code' word, met by the world's own term for the bytes: nothing is compared byte by byte -/
theorem code_word {y : MethodName} {bytes : ByteArray} {mx : Nat} {rt : Option FieldType} {a : Array Value} {s : State} {m : MethodId} {meth : Method} {c : Code} (h1 : s.methodNamed? y = some m) (h2 : s.vm.method? m = some meth) (h3 : meth.code = some c) (h4 : c.code = bytes)
    (h5 : (c.maxLocals == mx && c.exceptionTable.isEmpty && decide (c.maxStack ≤ mostOperands) && decide (meth.sig.returnType = rt) && !meth.locks && decide (parseMethodDescriptor y.desc = some meth.sig)) = true) : (Jvm.Cond.code y bytes mx rt).before a s = true := by
  simp only [Bool.and_eq_true, beq_iff_eq, Bool.not_eq_true', decide_eq_true_eq] at h5
  obtain ⟨⟨⟨⟨⟨g1, g2⟩, g3⟩, g4⟩, g5⟩, g6⟩ := h5
  simp [Cond.before, Cond.holds, Cond.value, h1, h2, h3, h4, g1, g2, g3, g4, g5, g6]
def isCode : Jvm.Cond → Bool
  | .code _ _ _ _ => true
  | _ => false
theorem all_split {L : List Jvm.Cond} {P : Jvm.Cond → Bool} (h1 : L.all (fun c => isCode c || P c) = true) (h2 : ∀ c ∈ L.filter isCode, P c = true) : L.all P = true := by
  refine List.all_eq_true.mpr fun c hc => ?_
  have h := List.all_eq_true.mp h1 c hc
  rcases Bool.eq_false_or_eq_true (isCode c) with hi | hi
  · exact h2 c (List.mem_filter.mpr ⟨hc, hi⟩)
  · simpa [hi] using h
set_option maxRecDepth 65536 in
theorem w_c0 : (Jvm.Cond.code x code maxLocals ret).before args0 about1 = true := code_word (m := ⟨1, 1⟩) (meth := k1m1) (c := k1c1) (by decide +kernel) rfl rfl rfl (by decide +kernel)
set_option maxRecDepth 65536 in
theorem w_c1 : (Jvm.Cond.code ({ cls := "com/example/tally_of_calls/tallyofcalls/Counts", name := "anyNumber", desc := "()Lcom/example/tally_of_calls/tallyofcalls/Count;" } : Jvm.MethodName) prog_5_method_7_code (0 : Nat) (Option.some (Jvm.ClassFile.FieldType.object "com/example/tally_of_calls/tallyofcalls/Count"))).before args0 about1 = true := code_word (m := ⟨2, 2⟩) (meth := k2m2) (c := k2c2) (by decide +kernel) rfl rfl rfl (by decide +kernel)
set_option maxRecDepth 65536 in
theorem w_c2 : (Jvm.Cond.code ({ cls := "com/example/tally_of_calls/tallyofcalls/Count", name := "<init>", desc := "(IJLjava/lang/String;)V" } : Jvm.MethodName) prog_4_method_1_code (5 : Nat) (Option.none : Option Jvm.ClassFile.FieldType)).before args0 about1 = true := code_word (m := ⟨3, 0⟩) (meth := k3m0) (c := k3c0) (by decide +kernel) rfl rfl rfl (by decide +kernel)
set_option maxRecDepth 65536 in
theorem w_c3 : (Jvm.Cond.code ({ cls := "java/lang/Object", name := "<init>", desc := "()V" } : Jvm.MethodName) object_method_1_code (1 : Nat) (Option.none : Option Jvm.ClassFile.FieldType)).before args0 about1 = true := code_word (m := ⟨0, 0⟩) (meth := k0m0) (c := k0c0) (by decide +kernel) rfl rfl rfl (by decide +kernel)
set_option maxRecDepth 65536 in
theorem w_c4 : (Jvm.Cond.code ({ cls := "com/example/tally_of_calls/tallyofcalls/Counts", name := "atLeast", desc := "(I)Lcom/example/tally_of_calls/tallyofcalls/Count;" } : Jvm.MethodName) prog_5_method_4_code (1 : Nat) (Option.some (Jvm.ClassFile.FieldType.object "com/example/tally_of_calls/tallyofcalls/Count"))).before args0 about1 = true := code_word (m := ⟨2, 1⟩) (meth := k2m1) (c := k2c1) (by decide +kernel) rfl rfl rfl (by decide +kernel)
set_option maxRecDepth 65536 in
theorem w_c5 : (Jvm.Cond.code ({ cls := "java/lang/StringBuilder", name := "<init>", desc := "()V" } : Jvm.MethodName) jdk_67_method_1_code (1 : Nat) (Option.none : Option Jvm.ClassFile.FieldType)).before args0 about1 = true := code_word (m := ⟨12, 0⟩) (meth := k12m0) (c := k12c0) (by decide +kernel) rfl rfl rfl (by decide +kernel)
set_option maxRecDepth 65536 in
theorem w_c6 : (Jvm.Cond.code ({ cls := "java/lang/AbstractStringBuilder", name := "<init>", desc := "(I)V" } : Jvm.MethodName) jdk_68_method_2_code (2 : Nat) (Option.none : Option Jvm.ClassFile.FieldType)).before args0 about1 = true := code_word (m := ⟨11, 1⟩) (meth := k11m1) (c := k11c1) (by decide +kernel) rfl rfl rfl (by decide +kernel)
set_option maxRecDepth 65536 in
theorem w_c7 : (Jvm.Cond.code ({ cls := "java/lang/StringBuilder", name := "append", desc := "(Ljava/lang/String;)Ljava/lang/StringBuilder;" } : Jvm.MethodName) jdk_67_method_7_code (2 : Nat) (Option.some (Jvm.ClassFile.FieldType.object "java/lang/StringBuilder"))).before args0 about1 = true := code_word (m := ⟨12, 1⟩) (meth := k12m1) (c := k12c1) (by decide +kernel) rfl rfl rfl (by decide +kernel)
set_option maxRecDepth 65536 in
theorem w_c8 : (Jvm.Cond.code ({ cls := "java/lang/AbstractStringBuilder", name := "append", desc := "(Ljava/lang/String;)Ljava/lang/AbstractStringBuilder;" } : Jvm.MethodName) jdk_68_method_22_code (3 : Nat) (Option.some (Jvm.ClassFile.FieldType.object "java/lang/AbstractStringBuilder"))).before args0 about1 = true := code_word (m := ⟨11, 5⟩) (meth := k11m5) (c := k11c5) (by decide +kernel) rfl rfl rfl (by decide +kernel)
set_option maxRecDepth 65536 in
theorem w_c9 : (Jvm.Cond.code ({ cls := "java/lang/String", name := "length", desc := "()I" } : Jvm.MethodName) jdk_42_method_54_code (1 : Nat) (Option.some Jvm.ClassFile.FieldType.int)).before args0 about1 = true := code_word (m := ⟨9, 2⟩) (meth := k9m2) (c := k9c2) (by decide +kernel) rfl rfl rfl (by decide +kernel)
set_option maxRecDepth 65536 in
theorem w_c10 : (Jvm.Cond.code ({ cls := "java/lang/String", name := "coder", desc := "()B" } : Jvm.MethodName) jdk_42_method_152_code (1 : Nat) (Option.some Jvm.ClassFile.FieldType.byte)).before args0 about1 = true := code_word (m := ⟨9, 6⟩) (meth := k9m6) (c := k9c6) (by decide +kernel) rfl rfl rfl (by decide +kernel)
set_option maxRecDepth 65536 in
theorem w_c11 : (Jvm.Cond.code ({ cls := "java/lang/AbstractStringBuilder", name := "ensureCapacityInternal", desc := "(I)V" } : Jvm.MethodName) jdk_68_method_9_code (3 : Nat) (Option.none : Option Jvm.ClassFile.FieldType)).before args0 about1 = true := code_word (m := ⟨11, 3⟩) (meth := k11m3) (c := k11c3) (by decide +kernel) rfl rfl rfl (by decide +kernel)
set_option maxRecDepth 65536 in
theorem w_c12 : (Jvm.Cond.code ({ cls := "java/lang/AbstractStringBuilder", name := "newCapacity", desc := "(I)I" } : Jvm.MethodName) jdk_68_method_10_code (6 : Nat) (Option.some Jvm.ClassFile.FieldType.int)).before args0 about1 = true := code_word (m := ⟨11, 4⟩) (meth := k11m4) (c := k11c4) (by decide +kernel) rfl rfl rfl (by decide +kernel)
set_option maxRecDepth 65536 in
theorem w_c13 : (Jvm.Cond.code ({ cls := "jdk/internal/util/ArraysSupport", name := "newLength", desc := "(III)I" } : Jvm.MethodName) jdk_48_method_27_code (4 : Nat) (Option.some Jvm.ClassFile.FieldType.int)).before args0 about1 = true := code_word (m := ⟨13, 1⟩) (meth := k13m1) (c := k13c1) (by decide +kernel) rfl rfl rfl (by decide +kernel)
set_option maxRecDepth 65536 in
theorem w_c14 : (Jvm.Cond.code ({ cls := "java/lang/Math", name := "max", desc := "(II)I" } : Jvm.MethodName) jdk_29_method_65_code (2 : Nat) (Option.some Jvm.ClassFile.FieldType.int)).before args0 about1 = true := code_word (m := ⟨14, 1⟩) (meth := k14m1) (c := k14c1) (by decide +kernel) rfl rfl rfl (by decide +kernel)
set_option maxRecDepth 65536 in
theorem w_c15 : (Jvm.Cond.code ({ cls := "java/util/Arrays", name := "copyOf", desc := "([BI)[B" } : Jvm.MethodName) jdk_65_method_121_code (3 : Nat) (Option.some (Jvm.ClassFile.FieldType.array Jvm.ClassFile.FieldType.byte))).before args0 about1 = true := code_word (m := ⟨15, 1⟩) (meth := k15m1) (c := k15c1) (by decide +kernel) rfl rfl rfl (by decide +kernel)
set_option maxRecDepth 65536 in
theorem w_c16 : (Jvm.Cond.code ({ cls := "java/lang/Math", name := "min", desc := "(II)I" } : Jvm.MethodName) jdk_29_method_69_code (2 : Nat) (Option.some Jvm.ClassFile.FieldType.int)).before args0 about1 = true := code_word (m := ⟨14, 2⟩) (meth := k14m2) (c := k14c2) (by decide +kernel) rfl rfl rfl (by decide +kernel)
set_option maxRecDepth 65536 in
theorem w_c17 : (Jvm.Cond.code ({ cls := "java/lang/AbstractStringBuilder", name := "putStringAt", desc := "(ILjava/lang/String;)V" } : Jvm.MethodName) jdk_68_method_73_code (3 : Nat) (Option.none : Option Jvm.ClassFile.FieldType)).before args0 about1 = true := code_word (m := ⟨11, 10⟩) (meth := k11m10) (c := k11c10) (by decide +kernel) rfl rfl rfl (by decide +kernel)
set_option maxRecDepth 65536 in
theorem w_c18 : (Jvm.Cond.code ({ cls := "java/lang/AbstractStringBuilder", name := "inflateIfNeededFor", desc := "(Ljava/lang/String;)V" } : Jvm.MethodName) jdk_68_method_71_code (2 : Nat) (Option.none : Option Jvm.ClassFile.FieldType)).before args0 about1 = true := code_word (m := ⟨11, 9⟩) (meth := k11m9) (c := k11c9) (by decide +kernel) rfl rfl rfl (by decide +kernel)
set_option maxRecDepth 65536 in
theorem w_c19 : (Jvm.Cond.code ({ cls := "java/lang/String", name := "getBytes", desc := "([BIB)V" } : Jvm.MethodName) jdk_42_method_147_code (4 : Nat) (Option.none : Option Jvm.ClassFile.FieldType)).before args0 about1 = true := code_word (m := ⟨9, 4⟩) (meth := k9m4) (c := k9c4) (by decide +kernel) rfl rfl rfl (by decide +kernel)
set_option maxRecDepth 65536 in
theorem w_c20 : (Jvm.Cond.code ({ cls := "java/lang/StringBuilder", name := "append", desc := "(I)Ljava/lang/StringBuilder;" } : Jvm.MethodName) jdk_67_method_15_code (2 : Nat) (Option.some (Jvm.ClassFile.FieldType.object "java/lang/StringBuilder"))).before args0 about1 = true := code_word (m := ⟨12, 2⟩) (meth := k12m2) (c := k12c2) (by decide +kernel) rfl rfl rfl (by decide +kernel)
set_option maxRecDepth 65536 in
theorem w_c21 : (Jvm.Cond.code ({ cls := "java/lang/AbstractStringBuilder", name := "append", desc := "(I)Ljava/lang/AbstractStringBuilder;" } : Jvm.MethodName) jdk_68_method_32_code (4 : Nat) (Option.some (Jvm.ClassFile.FieldType.object "java/lang/AbstractStringBuilder"))).before args0 about1 = true := code_word (m := ⟨11, 6⟩) (meth := k11m6) (c := k11c6) (by decide +kernel) rfl rfl rfl (by decide +kernel)
set_option maxRecDepth 65536 in
theorem w_c22 : (Jvm.Cond.code ({ cls := "java/lang/Integer", name := "stringSize", desc := "(I)I" } : Jvm.MethodName) jdk_33_method_13_code (4 : Nat) (Option.some Jvm.ClassFile.FieldType.int)).before args0 about1 = true := code_word (m := ⟨18, 1⟩) (meth := k18m1) (c := k18c1) (by decide +kernel) rfl rfl rfl (by decide +kernel)
set_option maxRecDepth 65536 in
theorem w_c23 : (Jvm.Cond.code ({ cls := "java/lang/AbstractStringBuilder", name := "isLatin1", desc := "()Z" } : Jvm.MethodName) jdk_68_method_68_code (1 : Nat) (Option.some Jvm.ClassFile.FieldType.boolean)).before args0 about1 = true := code_word (m := ⟨11, 8⟩) (meth := k11m8) (c := k11c8) (by decide +kernel) rfl rfl rfl (by decide +kernel)
set_option maxRecDepth 65536 in
theorem w_c24 : (Jvm.Cond.code ({ cls := "java/lang/Integer", name := "getChars", desc := "(II[B)I" } : Jvm.MethodName) jdk_33_method_12_code (7 : Nat) (Option.some Jvm.ClassFile.FieldType.int)).before args0 about1 = true := code_word (m := ⟨18, 0⟩) (meth := k18m0) (c := k18c0) (by decide +kernel) rfl rfl rfl (by decide +kernel)
set_option maxRecDepth 65536 in
theorem w_c25 : (Jvm.Cond.code ({ cls := "java/lang/StringBuilder", name := "toString", desc := "()Ljava/lang/String;" } : Jvm.MethodName) jdk_67_method_42_code (1 : Nat) (Option.some (Jvm.ClassFile.FieldType.object "java/lang/String"))).before args0 about1 = true := code_word (m := ⟨12, 3⟩) (meth := k12m3) (c := k12c3) (by decide +kernel) rfl rfl rfl (by decide +kernel)
set_option maxRecDepth 65536 in
theorem w_c26 : (Jvm.Cond.code ({ cls := "java/lang/String", name := "<init>", desc := "(Ljava/lang/StringBuilder;)V" } : Jvm.MethodName) jdk_42_method_53_code (2 : Nat) (Option.none : Option Jvm.ClassFile.FieldType)).before args0 about1 = true := code_word (m := ⟨9, 1⟩) (meth := k9m1) (c := k9c1) (by decide +kernel) rfl rfl rfl (by decide +kernel)
set_option maxRecDepth 65536 in
theorem w_c27 : (Jvm.Cond.code ({ cls := "java/lang/String", name := "<init>", desc := "(Ljava/lang/AbstractStringBuilder;Ljava/lang/Void;)V" } : Jvm.MethodName) jdk_42_method_150_code (5 : Nat) (Option.none : Option Jvm.ClassFile.FieldType)).before args0 about1 = true := code_word (m := ⟨9, 5⟩) (meth := k9m5) (c := k9c5) (by decide +kernel) rfl rfl rfl (by decide +kernel)
set_option maxRecDepth 65536 in
theorem w_c28 : (Jvm.Cond.code ({ cls := "java/lang/AbstractStringBuilder", name := "getValue", desc := "()[B" } : Jvm.MethodName) jdk_68_method_64_code (1 : Nat) (Option.some (Jvm.ClassFile.FieldType.array Jvm.ClassFile.FieldType.byte))).before args0 about1 = true := code_word (m := ⟨11, 7⟩) (meth := k11m7) (c := k11c7) (by decide +kernel) rfl rfl rfl (by decide +kernel)
set_option maxRecDepth 65536 in
theorem w_c29 : (Jvm.Cond.code ({ cls := "java/lang/StringBuilder", name := "length", desc := "()I" } : Jvm.MethodName) jdk_67_method_93_code (1 : Nat) (Option.some Jvm.ClassFile.FieldType.int)).before args0 about1 = true := code_word (m := ⟨12, 4⟩) (meth := k12m4) (c := k12c4) (by decide +kernel) rfl rfl rfl (by decide +kernel)
set_option maxRecDepth 65536 in
theorem w_c30 : (Jvm.Cond.code ({ cls := "java/lang/AbstractStringBuilder", name := "length", desc := "()I" } : Jvm.MethodName) jdk_68_method_6_code (1 : Nat) (Option.some Jvm.ClassFile.FieldType.int)).before args0 about1 = true := code_word (m := ⟨11, 2⟩) (meth := k11m2) (c := k11c2) (by decide +kernel) rfl rfl rfl (by decide +kernel)
set_option maxRecDepth 65536 in
theorem w_c31 : (Jvm.Cond.code ({ cls := "java/util/Arrays", name := "copyOfRange", desc := "([BII)[B" } : Jvm.MethodName) jdk_65_method_132_code (3 : Nat) (Option.some (Jvm.ClassFile.FieldType.array Jvm.ClassFile.FieldType.byte))).before args0 about1 = true := code_word (m := ⟨15, 3⟩) (meth := k15m3) (c := k15c3) (by decide +kernel) rfl rfl rfl (by decide +kernel)
set_option maxRecDepth 65536 in
theorem w_c32 : (Jvm.Cond.code ({ cls := "java/util/Arrays", name := "copyOfRangeByte", desc := "([BII)[B" } : Jvm.MethodName) jdk_65_method_133_code (5 : Nat) (Option.some (Jvm.ClassFile.FieldType.array Jvm.ClassFile.FieldType.byte))).before args0 about1 = true := code_word (m := ⟨15, 4⟩) (meth := k15m4) (c := k15c4) (by decide +kernel) rfl rfl rfl (by decide +kernel)
set_option maxRecDepth 65536 in
theorem w_c33 : (Jvm.Cond.code ({ cls := "java/util/Arrays", name := "checkLength", desc := "(II)V" } : Jvm.MethodName) jdk_65_method_131_code (2 : Nat) (Option.none : Option Jvm.ClassFile.FieldType)).before args0 about1 = true := code_word (m := ⟨15, 2⟩) (meth := k15m2) (c := k15c2) (by decide +kernel) rfl rfl rfl (by decide +kernel)
set_option maxRecDepth 65536 in
theorem w_c34 : (Jvm.Cond.code ({ cls := "com/example/tally_of_calls/tallyofcalls/Count", name := "min", desc := "()I" } : Jvm.MethodName) prog_4_method_2_code (1 : Nat) (Option.some Jvm.ClassFile.FieldType.int)).before args0 about1 = true := code_word (m := ⟨3, 1⟩) (meth := k3m1) (c := k3c1) (by decide +kernel) rfl rfl rfl (by decide +kernel)
set_option maxRecDepth 65536 in
theorem w_c35 : (Jvm.Cond.code ({ cls := "com/example/tally_of_calls/tallyofcalls/Count", name := "max", desc := "()J" } : Jvm.MethodName) prog_4_method_3_code (1 : Nat) (Option.some Jvm.ClassFile.FieldType.long)).before args0 about1 = true := code_word (m := ⟨3, 2⟩) (meth := k3m2) (c := k3c2) (by decide +kernel) rfl rfl rfl (by decide +kernel)
set_option maxRecDepth 65536 in
theorem w_c36 : (Jvm.Cond.code ({ cls := "com/example/tally_of_calls/tallyofcalls/Count", name := "phrase", desc := "()Ljava/lang/String;" } : Jvm.MethodName) prog_4_method_4_code (1 : Nat) (Option.some (Jvm.ClassFile.FieldType.object "java/lang/String"))).before args0 about1 = true := code_word (m := ⟨3, 3⟩) (meth := k3m3) (c := k3c3) (by decide +kernel) rfl rfl rfl (by decide +kernel)
set_option maxRecDepth 65536 in
theorem w_c37 : (Jvm.Cond.code ({ cls := "java/lang/String", name := "isEmpty", desc := "()Z" } : Jvm.MethodName) jdk_42_method_55_code (1 : Nat) (Option.some Jvm.ClassFile.FieldType.boolean)).before args0 about1 = true := code_word (m := ⟨9, 3⟩) (meth := k9m3) (c := k9c3) (by decide +kernel) rfl rfl rfl (by decide +kernel)
def codes1 : List Jvm.Cond := [Jvm.Cond.code x code maxLocals ret, Jvm.Cond.code ({ cls := "com/example/tally_of_calls/tallyofcalls/Counts", name := "anyNumber", desc := "()Lcom/example/tally_of_calls/tallyofcalls/Count;" } : Jvm.MethodName) prog_5_method_7_code (0 : Nat) (Option.some (Jvm.ClassFile.FieldType.object "com/example/tally_of_calls/tallyofcalls/Count")), Jvm.Cond.code ({ cls := "com/example/tally_of_calls/tallyofcalls/Count", name := "<init>", desc := "(IJLjava/lang/String;)V" } : Jvm.MethodName) prog_4_method_1_code (5 : Nat) (Option.none : Option Jvm.ClassFile.FieldType), Jvm.Cond.code ({ cls := "java/lang/Object", name := "<init>", desc := "()V" } : Jvm.MethodName) object_method_1_code (1 : Nat) (Option.none : Option Jvm.ClassFile.FieldType), Jvm.Cond.code ({ cls := "com/example/tally_of_calls/tallyofcalls/Counts", name := "atLeast", desc := "(I)Lcom/example/tally_of_calls/tallyofcalls/Count;" } : Jvm.MethodName) prog_5_method_4_code (1 : Nat) (Option.some (Jvm.ClassFile.FieldType.object "com/example/tally_of_calls/tallyofcalls/Count")), Jvm.Cond.code ({ cls := "java/lang/StringBuilder", name := "<init>", desc := "()V" } : Jvm.MethodName) jdk_67_method_1_code (1 : Nat) (Option.none : Option Jvm.ClassFile.FieldType), Jvm.Cond.code ({ cls := "java/lang/AbstractStringBuilder", name := "<init>", desc := "(I)V" } : Jvm.MethodName) jdk_68_method_2_code (2 : Nat) (Option.none : Option Jvm.ClassFile.FieldType), Jvm.Cond.code ({ cls := "java/lang/StringBuilder", name := "append", desc := "(Ljava/lang/String;)Ljava/lang/StringBuilder;" } : Jvm.MethodName) jdk_67_method_7_code (2 : Nat) (Option.some (Jvm.ClassFile.FieldType.object "java/lang/StringBuilder")), Jvm.Cond.code ({ cls := "java/lang/AbstractStringBuilder", name := "append", desc := "(Ljava/lang/String;)Ljava/lang/AbstractStringBuilder;" } : Jvm.MethodName) jdk_68_method_22_code (3 : Nat) (Option.some (Jvm.ClassFile.FieldType.object "java/lang/AbstractStringBuilder")), Jvm.Cond.code ({ cls := "java/lang/String", name := "length", desc := "()I" } : Jvm.MethodName) jdk_42_method_54_code (1 : Nat) (Option.some Jvm.ClassFile.FieldType.int), Jvm.Cond.code ({ cls := "java/lang/String", name := "coder", desc := "()B" } : Jvm.MethodName) jdk_42_method_152_code (1 : Nat) (Option.some Jvm.ClassFile.FieldType.byte), Jvm.Cond.code ({ cls := "java/lang/AbstractStringBuilder", name := "ensureCapacityInternal", desc := "(I)V" } : Jvm.MethodName) jdk_68_method_9_code (3 : Nat) (Option.none : Option Jvm.ClassFile.FieldType), Jvm.Cond.code ({ cls := "java/lang/AbstractStringBuilder", name := "newCapacity", desc := "(I)I" } : Jvm.MethodName) jdk_68_method_10_code (6 : Nat) (Option.some Jvm.ClassFile.FieldType.int), Jvm.Cond.code ({ cls := "jdk/internal/util/ArraysSupport", name := "newLength", desc := "(III)I" } : Jvm.MethodName) jdk_48_method_27_code (4 : Nat) (Option.some Jvm.ClassFile.FieldType.int), Jvm.Cond.code ({ cls := "java/lang/Math", name := "max", desc := "(II)I" } : Jvm.MethodName) jdk_29_method_65_code (2 : Nat) (Option.some Jvm.ClassFile.FieldType.int), Jvm.Cond.code ({ cls := "java/util/Arrays", name := "copyOf", desc := "([BI)[B" } : Jvm.MethodName) jdk_65_method_121_code (3 : Nat) (Option.some (Jvm.ClassFile.FieldType.array Jvm.ClassFile.FieldType.byte)), Jvm.Cond.code ({ cls := "java/lang/Math", name := "min", desc := "(II)I" } : Jvm.MethodName) jdk_29_method_69_code (2 : Nat) (Option.some Jvm.ClassFile.FieldType.int), Jvm.Cond.code ({ cls := "java/lang/AbstractStringBuilder", name := "putStringAt", desc := "(ILjava/lang/String;)V" } : Jvm.MethodName) jdk_68_method_73_code (3 : Nat) (Option.none : Option Jvm.ClassFile.FieldType), Jvm.Cond.code ({ cls := "java/lang/AbstractStringBuilder", name := "inflateIfNeededFor", desc := "(Ljava/lang/String;)V" } : Jvm.MethodName) jdk_68_method_71_code (2 : Nat) (Option.none : Option Jvm.ClassFile.FieldType), Jvm.Cond.code ({ cls := "java/lang/String", name := "getBytes", desc := "([BIB)V" } : Jvm.MethodName) jdk_42_method_147_code (4 : Nat) (Option.none : Option Jvm.ClassFile.FieldType), Jvm.Cond.code ({ cls := "java/lang/StringBuilder", name := "append", desc := "(I)Ljava/lang/StringBuilder;" } : Jvm.MethodName) jdk_67_method_15_code (2 : Nat) (Option.some (Jvm.ClassFile.FieldType.object "java/lang/StringBuilder")), Jvm.Cond.code ({ cls := "java/lang/AbstractStringBuilder", name := "append", desc := "(I)Ljava/lang/AbstractStringBuilder;" } : Jvm.MethodName) jdk_68_method_32_code (4 : Nat) (Option.some (Jvm.ClassFile.FieldType.object "java/lang/AbstractStringBuilder")), Jvm.Cond.code ({ cls := "java/lang/Integer", name := "stringSize", desc := "(I)I" } : Jvm.MethodName) jdk_33_method_13_code (4 : Nat) (Option.some Jvm.ClassFile.FieldType.int), Jvm.Cond.code ({ cls := "java/lang/AbstractStringBuilder", name := "isLatin1", desc := "()Z" } : Jvm.MethodName) jdk_68_method_68_code (1 : Nat) (Option.some Jvm.ClassFile.FieldType.boolean), Jvm.Cond.code ({ cls := "java/lang/Integer", name := "getChars", desc := "(II[B)I" } : Jvm.MethodName) jdk_33_method_12_code (7 : Nat) (Option.some Jvm.ClassFile.FieldType.int), Jvm.Cond.code ({ cls := "java/lang/StringBuilder", name := "toString", desc := "()Ljava/lang/String;" } : Jvm.MethodName) jdk_67_method_42_code (1 : Nat) (Option.some (Jvm.ClassFile.FieldType.object "java/lang/String")), Jvm.Cond.code ({ cls := "java/lang/String", name := "<init>", desc := "(Ljava/lang/StringBuilder;)V" } : Jvm.MethodName) jdk_42_method_53_code (2 : Nat) (Option.none : Option Jvm.ClassFile.FieldType), Jvm.Cond.code ({ cls := "java/lang/String", name := "<init>", desc := "(Ljava/lang/AbstractStringBuilder;Ljava/lang/Void;)V" } : Jvm.MethodName) jdk_42_method_150_code (5 : Nat) (Option.none : Option Jvm.ClassFile.FieldType), Jvm.Cond.code ({ cls := "java/lang/AbstractStringBuilder", name := "getValue", desc := "()[B" } : Jvm.MethodName) jdk_68_method_64_code (1 : Nat) (Option.some (Jvm.ClassFile.FieldType.array Jvm.ClassFile.FieldType.byte)), Jvm.Cond.code ({ cls := "java/lang/StringBuilder", name := "length", desc := "()I" } : Jvm.MethodName) jdk_67_method_93_code (1 : Nat) (Option.some Jvm.ClassFile.FieldType.int), Jvm.Cond.code ({ cls := "java/lang/AbstractStringBuilder", name := "length", desc := "()I" } : Jvm.MethodName) jdk_68_method_6_code (1 : Nat) (Option.some Jvm.ClassFile.FieldType.int), Jvm.Cond.code ({ cls := "java/util/Arrays", name := "copyOfRange", desc := "([BII)[B" } : Jvm.MethodName) jdk_65_method_132_code (3 : Nat) (Option.some (Jvm.ClassFile.FieldType.array Jvm.ClassFile.FieldType.byte)), Jvm.Cond.code ({ cls := "java/util/Arrays", name := "copyOfRangeByte", desc := "([BII)[B" } : Jvm.MethodName) jdk_65_method_133_code (5 : Nat) (Option.some (Jvm.ClassFile.FieldType.array Jvm.ClassFile.FieldType.byte)), Jvm.Cond.code ({ cls := "java/util/Arrays", name := "checkLength", desc := "(II)V" } : Jvm.MethodName) jdk_65_method_131_code (2 : Nat) (Option.none : Option Jvm.ClassFile.FieldType), Jvm.Cond.code ({ cls := "com/example/tally_of_calls/tallyofcalls/Count", name := "min", desc := "()I" } : Jvm.MethodName) prog_4_method_2_code (1 : Nat) (Option.some Jvm.ClassFile.FieldType.int), Jvm.Cond.code ({ cls := "com/example/tally_of_calls/tallyofcalls/Count", name := "max", desc := "()J" } : Jvm.MethodName) prog_4_method_3_code (1 : Nat) (Option.some Jvm.ClassFile.FieldType.long), Jvm.Cond.code ({ cls := "com/example/tally_of_calls/tallyofcalls/Count", name := "phrase", desc := "()Ljava/lang/String;" } : Jvm.MethodName) prog_4_method_4_code (1 : Nat) (Option.some (Jvm.ClassFile.FieldType.object "java/lang/String")), Jvm.Cond.code ({ cls := "java/lang/String", name := "isEmpty", desc := "()Z" } : Jvm.MethodName) jdk_42_method_55_code (1 : Nat) (Option.some Jvm.ClassFile.FieldType.boolean)]
set_option maxRecDepth 65536 in
theorem codes_eq : words1.filter isCode = codes1 := rfl
theorem w_codes : ∀ c ∈ words1.filter isCode, c.before args0 about1 = true := by
  rw [codes_eq]
  intro c hc
  simp only [codes1, List.mem_cons, List.not_mem_nil, or_false] at hc
  rcases hc with rfl | rfl | rfl | rfl | rfl | rfl | rfl | rfl | rfl | rfl | rfl | rfl | rfl | rfl | rfl | rfl | rfl | rfl | rfl | rfl | rfl | rfl | rfl | rfl | rfl | rfl | rfl | rfl | rfl | rfl | rfl | rfl | rfl | rfl | rfl | rfl | rfl | rfl
  · exact w_c0
  · exact w_c1
  · exact w_c2
  · exact w_c3
  · exact w_c4
  · exact w_c5
  · exact w_c6
  · exact w_c7
  · exact w_c8
  · exact w_c9
  · exact w_c10
  · exact w_c11
  · exact w_c12
  · exact w_c13
  · exact w_c14
  · exact w_c15
  · exact w_c16
  · exact w_c17
  · exact w_c18
  · exact w_c19
  · exact w_c20
  · exact w_c21
  · exact w_c22
  · exact w_c23
  · exact w_c24
  · exact w_c25
  · exact w_c26
  · exact w_c27
  · exact w_c28
  · exact w_c29
  · exact w_c30
  · exact w_c31
  · exact w_c32
  · exact w_c33
  · exact w_c34
  · exact w_c35
  · exact w_c36
  · exact w_c37
set_option maxRecDepth 65536 in
theorem w_t1 : (words1.take 24).all (fun c => isCode c || c.before args0 about1) = true := by decide +kernel
set_option maxRecDepth 65536 in
theorem w_t2 : ((words1.drop 24).take 24).all (fun c => isCode c || c.before args0 about1) = true := by decide +kernel
set_option maxRecDepth 65536 in
theorem w_t3 : (((words1.drop 24).drop 24).take 24).all (fun c => isCode c || c.before args0 about1) = true := by decide +kernel
set_option maxRecDepth 65536 in
theorem w_t4 : ((((words1.drop 24).drop 24).drop 24).take 24).all (fun c => isCode c || c.before args0 about1) = true := by decide +kernel
set_option maxRecDepth 65536 in
theorem w_t5 : (((((words1.drop 24).drop 24).drop 24).drop 24).take 24).all (fun c => isCode c || c.before args0 about1) = true := by decide +kernel
set_option maxRecDepth 65536 in
theorem w_t6 : ((((((words1.drop 24).drop 24).drop 24).drop 24).drop 24).take 24).all (fun c => isCode c || c.before args0 about1) = true := by decide +kernel
set_option maxRecDepth 65536 in
theorem w_t7 : (((((((words1.drop 24).drop 24).drop 24).drop 24).drop 24).drop 24).take 24).all (fun c => isCode c || c.before args0 about1) = true := by decide +kernel
set_option maxRecDepth 65536 in
theorem w_t8 : ((((((((words1.drop 24).drop 24).drop 24).drop 24).drop 24).drop 24).drop 24).take 24).all (fun c => isCode c || c.before args0 about1) = true := by decide +kernel
set_option maxRecDepth 65536 in
theorem w_t9 : ((((((((words1.drop 24).drop 24).drop 24).drop 24).drop 24).drop 24).drop 24).drop 24).all (fun c => isCode c || c.before args0 about1) = true := by decide +kernel
theorem w_tables : (allAtoms (Jvm.Cond.code x code maxLocals ret :: tables_1)).before args0 about1 = true := by
  rw [allAtoms_all]
  show words1.all (fun c => c.before args0 about1) = true
  refine all_split ?_ w_codes
  rw [← List.take_append_drop 24 words1, List.all_append, w_t1, ← List.take_append_drop 24 (words1.drop 24), List.all_append, w_t2, ← List.take_append_drop 24 ((words1.drop 24).drop 24), List.all_append, w_t3, ← List.take_append_drop 24 (((words1.drop 24).drop 24).drop 24), List.all_append, w_t4, ← List.take_append_drop 24 ((((words1.drop 24).drop 24).drop 24).drop 24), List.all_append, w_t5, ← List.take_append_drop 24 (((((words1.drop 24).drop 24).drop 24).drop 24).drop 24), List.all_append, w_t6, ← List.take_append_drop 24 ((((((words1.drop 24).drop 24).drop 24).drop 24).drop 24).drop 24), List.all_append, w_t7, ← List.take_append_drop 24 (((((((words1.drop 24).drop 24).drop 24).drop 24).drop 24).drop 24).drop 24), List.all_append, w_t8, w_t9]
  rfl
set_option maxRecDepth 65536 in
theorem w_rest : rest_1_c.before args0 about1 = true := by decide +kernel
set_option maxRecDepth 65536 in
theorem w_case : (Jvm.Cond.and given_1 narrow_1).before args0 about1 = true := by decide +kernel
set_option maxRecDepth 65536 in
theorem w_consts : constsHeld consts_1 about1 := Jvm.Lit.constsHeldB_iff.mp (by decide +kernel)
theorem w_applies : (headSpec (Jvm.Cond.code x code maxLocals ret :: tables_1) room_1).applies x e0.platform about1 = true :=
  (Spec.applies_iff w_frames).mpr ⟨w_running, w_runnable, w_alone, w_named, w_hears, w_ripe, w_room, w_tables⟩
theorem atStart : AtStart classFile x code maxLocals ret World_1 tables_1 room_1 Calls_1 rest_1 Pre_1 launch0 p0 e0 about1 theMethod args0 below0 :=
  ⟨lists_1, trivial, launch0.admits_env _ _ _, launch0.least_env, fairChoices_fair.cas, fairChoices_fair.clock, w_frames, w_args, w_heap, w_applies, ⟨w_consts, trivial⟩, w_rest, w_case⟩
end start1
theorem witness_1 : WitnessClaimed_1 := ⟨start1.p0, start1.e0, start1.about1, start1.theMethod, start1.args0, start1.below0, start1.atStart⟩
end Jvm.Pilot.@@N@@
