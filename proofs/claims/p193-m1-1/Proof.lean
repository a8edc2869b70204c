import JvmDerived
import JvmDerived.Pilot.@@N@@Statement
import JvmDerived.Pilot.@@N@@Code
set_option linter.unusedVariables false
set_option linter.unusedSimpArgs false
namespace Jvm.RoadKit
open Sem ClassFile Op Lib Jvm.Stand Jvm.Free Jvm.LawKit
section New
variable {p : Program} {l : Launch} {e : Env} {R : Room} {s : State} {m : MethodId} {args : Array Value} {below : List Frame} {meth : Method} {c : Code} {T : State} {locs : List Loc} {cells slots : Nat}
theorem retI (X : Stand p l e R s m args below meth c T locs cells slots) (hx : p.tables.exec = Jvm.exec) {pc : Nat} {Ls : Array Slot} {z : Int32} {rest : List Value} (hret : meth.sig.returnType = some .int) (hd : decode c.code pc = .ok (.ireturn, 1)) {fs : List Frame}
    (hl : ∀ (f : JFrame) (acts : List Action), f.method = m → f.locked = none → f.entered = [] → (doReturn e (T.setTop f) acts (some (.int z))).1 = T.setFrames fs) : Steps p.tables e below (T.setTop (mkF m pc Ls (.int z :: rest))) (T.setFrames fs) := by
  have hm' : T.vm.method? m = some meth := X.method'
  have hn : narrow .int (.int z) = .int z := rfl
  show Steps p.tables e below (T.setTop { method := m, pc := pc, locals := Ls, stack := _ :: rest, locked := none }) _
  jvm_step X.here [X.here.top, hx, hd, hm', hret, hn]
  first | (intro acts; rw [hl _ acts rfl rfl rfl]) | rw [hl _ _ rfl rfl rfl]
  exact Steps.refl _
end New
end Jvm.RoadKit
namespace Jvm.Pilot.@@N@@
open Jvm Jvm.ClassFile Sem Op Lib Jvm.Free Jvm.Stand Jvm.LawKit Jvm.RoadKit Bundle Jvm.Pilot.@@N@@.Jvm.D
section Own
variable {p : Program} {l : Launch} {e : Env} {R : Room} {s : State} {m : MethodId} {args : Array Value} {below : List Frame} {meth : Method} {c : Code} {T T' : State} {locs : List Loc} {cells slots cc nn : Nat} {f f' : JFrame} {Q : Option Value → Heap → List Loc → Prop} {Z : State} {h h' : Heap} {ws : List Addr}
/-- from this state the body comes to its end, and what it leaves is as Q says -/
def own_Ends (p : Program) (e : Env) (below : List Frame) (s : State) (Q : Option Value → Heap → List Loc → Prop) (cc nn : Nat) (T : State) (f : JFrame) : Prop :=
  ∃ s₂ o, Steps p.tables e below (T.setTop f) s₂ ∧ s₂.status = .running ∧ Ended s₂ below o ∧ ∃ v L, o = .returned v ∧ Q v s₂.heap L ∧ FrameEnd s o s₂ L cc nn
theorem own_go (k : ∀ t, Steps p.tables e below (T'.setTop f') t → Steps p.tables e below (T.setTop f) t) (h : own_Ends p e below s Q cc nn T' f') : own_Ends p e below s Q cc nn T f := by
  obtain ⟨s₂, o, h1, h2⟩ := h
  exact ⟨s₂, o, k _ h1, h2⟩
theorem own_ret (X : Stand p l e R s m args below meth c T locs cells slots) {v : Option Value} (hv : meth.sig.returnType = none → v = none) (hlk : meth.locks = false)
    (st : ∀ fs, (∀ (f : JFrame) (acts : List Action), f.method = m → f.locked = none → f.entered = [] → (doReturn e (T.setTop f) acts v).1 = T.setFrames fs) → Steps p.tables e below (T.setTop f) (T.setFrames fs)) (hQ : Q v T.heap locs) (h1 : cells ≤ cc) (h2 : slots ≤ nn) :
    own_Ends p e below s Q cc nn T f := by
  obtain ⟨fs, hr, hrun, hended, hW, hsame⟩ := X.leave (v := v) hv hlk
  exact ⟨_, _, st fs hr, hrun, hended, _, _, rfl, hQ, ⟨_, rfl⟩, hW, hsame.mono h1 h2⟩
theorem own_retL (X : Stand p l e R s m args below meth c T locs cells slots) (hx : p.tables.exec = Jvm.exec) {pc : Nat} {Ls : Array Slot} {z : Int64} {rest : List Value} (hret : meth.sig.returnType = some .long) (hd : decode c.code pc = .ok (.lreturn, 1)) {fs : List Frame}
    (hl : ∀ (f : JFrame) (acts : List Action), f.method = m → f.locked = none → f.entered = [] → (doReturn e (T.setTop f) acts (some (.long z))).1 = T.setFrames fs) : Steps p.tables e below (T.setTop (mkF m pc Ls (.long z :: rest))) (T.setFrames fs) :=
  retOut X hx hret rfl (Or.inr (Or.inl ⟨rfl, rfl, _, rfl⟩)) hd hl
theorem own_retD (X : Stand p l e R s m args below meth c T locs cells slots) (hx : p.tables.exec = Jvm.exec) {pc : Nat} {Ls : Array Slot} {z : UInt64} {rest : List Value} (hret : meth.sig.returnType = some .double) (hd : decode c.code pc = .ok (.dreturn, 1)) {fs : List Frame}
    (hl : ∀ (f : JFrame) (acts : List Action), f.method = m → f.locked = none → f.entered = [] → (doReturn e (T.setTop f) acts (some (.double z))).1 = T.setFrames fs) : Steps p.tables e below (T.setTop (mkF m pc Ls (.double z :: rest))) (T.setFrames fs) :=
  retOut X hx hret rfl (Or.inr (Or.inr (Or.inl ⟨rfl, rfl, _, rfl⟩))) hd hl
theorem own_retA (X : Stand p l e R s m args below meth c T locs cells slots) (hx : p.tables.exec = Jvm.exec) {pc : Nat} {Ls : Array Slot} {w : Value} {t : FieldType} {rest : List Value} (hret : meth.sig.returnType = some t) (ht : t.isReference = true) (hw : w.isRef = true) (hd : decode c.code pc = .ok (.areturn, 1)) {fs : List Frame}
    (hl : ∀ (f : JFrame) (acts : List Action), f.method = m → f.locked = none → f.entered = [] → (doReturn e (T.setTop f) acts (some w)).1 = T.setFrames fs) : Steps p.tables e below (T.setTop (mkF m pc Ls (w :: rest))) (T.setFrames fs) :=
  retOut X hx hret (by cases t <;> first | rfl | (cases ht; done)) (Or.inr (Or.inr (Or.inr (Or.inr ⟨rfl, ht, hw⟩)))) hd hl
theorem own_lc_lt {a b : Int64} : lcmpW a b < 0 ↔ a < b := by
  simp only [lcmpW, gt_iff_lt]
  by_cases h1 : b < a
  · rw [if_pos h1]; exact ⟨fun q => absurd q (by decide), fun q => absurd q (by rw [Int64.lt_iff_toInt_lt] at *; omega)⟩
  · rw [if_neg h1]
    by_cases h2 : a = b
    · rw [if_pos h2]; exact ⟨fun q => absurd q (by decide), fun q => absurd q (by rw [h2, Int64.lt_iff_toInt_lt]; omega)⟩
    · rw [if_neg h2]; exact ⟨fun _ => by rw [Int64.lt_iff_toInt_lt] at *; rw [← Int64.toInt_inj] at h2; omega, fun _ => by decide⟩
theorem own_lc_eq {a b : Int64} : lcmpW a b = 0 ↔ a = b := by
  simp only [lcmpW, gt_iff_lt]
  by_cases h1 : b < a
  · rw [if_pos h1]; exact ⟨fun q => absurd q (by decide), fun q => absurd h1 (by rw [q, Int64.lt_iff_toInt_lt]; omega)⟩
  · rw [if_neg h1]
    by_cases h2 : a = b
    · rw [if_pos h2]; exact ⟨fun _ => h2, fun _ => rfl⟩
    · rw [if_neg h2]; exact ⟨fun q => absurd q (by decide), fun q => absurd q h2⟩
theorem own_lc_gt {a b : Int64} : 0 < lcmpW a b ↔ b < a := by
  simp only [lcmpW, gt_iff_lt]
  by_cases h1 : b < a
  · rw [if_pos h1]; exact ⟨fun _ => h1, fun _ => by decide⟩
  · rw [if_neg h1]
    by_cases h2 : a = b
    · rw [if_pos h2]; exact ⟨fun q => absurd q (by decide), fun q => absurd q h1⟩
    · rw [if_neg h2]; exact ⟨fun q => absurd q (by decide), fun q => absurd q h1⟩
section Arr
variable {target : State} {g : JFrame} {a : Addr} {kc : ClassId} {ty : FieldType} {z : Int32} {vs : List Value} {dv : Value}
theorem own_alen (X : Stand p l e R s m args below meth c T locs cells slots) (hx : p.tables.exec = Jvm.exec) (hZ : Z.Warmed39 s.vm) (eT : T.heap = h) (V : Arv Z h a kc ty z vs dv) (hg : g.method = m) {rest : List Value} (hs : g.stack = .ref a :: rest) (hd : decode c.code g.pc = .ok (.arraylength, 1))
    (hr : Steps p.tables e below (T.setTop { g with pc := g.pc + 1, stack := .int z :: rest }) target) : Steps p.tables e below (T.setTop g) target := by
  obtain ⟨cl, Ar, -, Sz, Ng, -, -⟩ := V
  exact X.arraylength hx (by rw [eT]; exact Ar.1) (State.isArrayOf_alike hZ.alike Ar.2.1) hg hs hd _ (by rw [len_of Sz Ng]; exact hr)
theorem own_ldI (X : Stand p l e R s m args below meth c T locs cells slots) (hx : p.tables.exec = Jvm.exec) (hZ : Z.Warmed39 s.vm) (eT : T.heap = h) (V : Arv Z h a kc .int z vs dv) {j : Int32} {x : Int32} (hin : ¬ j < 0 ∧ j < z) (hv : vs.getD j.toNatClampNeg dv = .int x) (hg : g.method = m) {rest : List Value} (hs : g.stack = .int j :: .ref a :: rest) (hd : decode c.code g.pc = .ok (.iaload, 1))
    (hr : Steps p.tables e below (T.setTop { g with pc := g.pc + 1, stack := .int x :: rest }) target) : Steps p.tables e below (T.setTop g) target := by
  obtain ⟨cl, Ar, -, Sz, Ng, Hs, Ft⟩ := V
  have hq := inb_of (j := j) Sz hin
  exact X.iaload hx (j := j) (v := .int x) (by rw [eT]; exact Ar.1) (State.isArrayOf_alike hZ.alike Ar.2.1) Ar.2.2 hq (Hs.at hq hv) hg hs hd _ hr
theorem own_ldB (X : Stand p l e R s m args below meth c T locs cells slots) (hx : p.tables.exec = Jvm.exec) (hZ : Z.Warmed39 s.vm) (eT : T.heap = h) (V : Arv Z h a kc .byte z vs dv) {j : Int32} {x : Int32} (hin : ¬ j < 0 ∧ j < z) (hv : vs.getD j.toNatClampNeg dv = .int x) (hg : g.method = m) {rest : List Value} (hs : g.stack = .int j :: .ref a :: rest) (hd : decode c.code g.pc = .ok (.baload, 1))
    (hr : Steps p.tables e below (T.setTop { g with pc := g.pc + 1, stack := .int x :: rest }) target) : Steps p.tables e below (T.setTop g) target := by
  obtain ⟨cl, Ar, -, Sz, Ng, Hs, Ft⟩ := V
  have hq := inb_of (j := j) Sz hin
  exact X.baloadBytes hx (j := j) (v := .int x) (by rw [eT]; exact Ar.1) (State.isArrayOf_alike hZ.alike Ar.2.1) Ar.2.2 hq (Hs.at hq hv) hg hs hd _ hr
theorem own_ldC (X : Stand p l e R s m args below meth c T locs cells slots) (hx : p.tables.exec = Jvm.exec) (hZ : Z.Warmed39 s.vm) (eT : T.heap = h) (V : Arv Z h a kc .char z vs dv) {j : Int32} {x : Int32} (hin : ¬ j < 0 ∧ j < z) (hv : vs.getD j.toNatClampNeg dv = .int x) (hg : g.method = m) {rest : List Value} (hs : g.stack = .int j :: .ref a :: rest) (hd : decode c.code g.pc = .ok (.caload, 1))
    (hr : Steps p.tables e below (T.setTop { g with pc := g.pc + 1, stack := .int x :: rest }) target) : Steps p.tables e below (T.setTop g) target := by
  obtain ⟨cl, Ar, -, Sz, Ng, Hs, Ft⟩ := V
  have hq := inb_of (j := j) Sz hin
  exact X.caload hx (j := j) (v := .int x) (by rw [eT]; exact Ar.1) (State.isArrayOf_alike hZ.alike Ar.2.1) Ar.2.2 hq (Hs.at hq hv) hg hs hd _ hr
theorem own_ldJ (X : Stand p l e R s m args below meth c T locs cells slots) (hx : p.tables.exec = Jvm.exec) (hZ : Z.Warmed39 s.vm) (eT : T.heap = h) (V : Arv Z h a kc .long z vs dv) {j : Int32} {x : Int64} (hin : ¬ j < 0 ∧ j < z) (hv : vs.getD j.toNatClampNeg dv = .long x) (hg : g.method = m) {rest : List Value} (hs : g.stack = .int j :: .ref a :: rest) (hd : decode c.code g.pc = .ok (.laload, 1))
    (hr : Steps p.tables e below (T.setTop { g with pc := g.pc + 1, stack := .long x :: rest }) target) : Steps p.tables e below (T.setTop g) target := by
  obtain ⟨cl, Ar, -, Sz, Ng, Hs, Ft⟩ := V
  have hq := inb_of (j := j) Sz hin
  exact X.laload hx (j := j) (v := .long x) (by rw [eT]; exact Ar.1) (State.isArrayOf_alike hZ.alike Ar.2.1) Ar.2.2 hq (Hs.at hq hv) hg hs hd _ hr
theorem own_ldR (X : Stand p l e R s m args below meth c T locs cells slots) (hx : p.tables.exec = Jvm.exec) (hZ : Z.Warmed39 s.vm) (eT : T.heap = h) (V : Arv Z h a kc ty z vs dv) {j : Int32} {x : Value} (hin : ¬ j < 0 ∧ j < z) (hv : vs.getD j.toNatClampNeg dv = x) (hty : ty.isReference = true) (hg : g.method = m) {rest : List Value} (hs : g.stack = .int j :: .ref a :: rest) (hd : decode c.code g.pc = .ok (.aaload, 1))
    (hr : Steps p.tables e below (T.setTop { g with pc := g.pc + 1, stack := x :: rest }) target) : Steps p.tables e below (T.setTop g) target := by
  obtain ⟨cl, Ar, -, Sz, Ng, Hs, Ft⟩ := V
  have hq := inb_of (j := j) Sz hin
  exact X.aaload hx (j := j) (v := x) (by rw [eT]; exact Ar.1) (State.isArrayOf_alike hZ.alike Ar.2.1) hty Ar.2.2 hq (Hs.at hq hv) hg hs hd _ hr
theorem own_stI (X : Stand p l e R s m args below meth c T locs cells slots) (hx : p.tables.exec = Jvm.exec) (hZ : Z.Warmed39 s.vm) (eT : T.heap = h) (V : Arv Z h a kc .int z vs dv) {j : Int32} {x : Int32} (hin : ¬ j < 0 ∧ j < z) (i : Nat) (hj : j.toNatClampNeg = i) (hi : i < vs.length) (hg : g.method = m) {rest : List Value} (hs : g.stack = .int x :: .int j :: .ref a :: rest) (hd : decode c.code g.pc = .ok (.iastore, 1)) :
    ∃ T' h', Stand p l e R s m args below meth c T' (locs ++ [⟨a, j.toNatClampNeg⟩]) cells slots ∧ T'.heap = h' ∧ Wr h h' a j.toNatClampNeg (.int x) ∧ Arv Z h' a kc .int z (vs.set i (.int x)) dv ∧ ∀ target, Steps p.tables e below (T'.setTop { g with pc := g.pc + 1, stack := rest }) target → Steps p.tables e below (T.setTop g) target := by
  obtain ⟨cl, Ar, q, Sz, Ng, Hs, Ft⟩ := V
  obtain ⟨T', h', X', e', W', st⟩ := stI X hx hZ eT Ar (j := j) (inb_of Sz hin) hg hs hd
  exact ⟨T', h', X', e', W', Arv.set Ar q Sz Ng Hs Ft rfl W' i hj hi, st⟩
theorem own_stB (X : Stand p l e R s m args below meth c T locs cells slots) (hx : p.tables.exec = Jvm.exec) (hZ : Z.Warmed39 s.vm) (eT : T.heap = h) (V : Arv Z h a kc .byte z vs dv) {j : Int32} {x : Int32} (hin : ¬ j < 0 ∧ j < z) (i : Nat) (hj : j.toNatClampNeg = i) (hi : i < vs.length) (hg : g.method = m) {rest : List Value} (hs : g.stack = .int x :: .int j :: .ref a :: rest) (hd : decode c.code g.pc = .ok (.bastore, 1)) :
    ∃ T' h', Stand p l e R s m args below meth c T' (locs ++ [⟨a, j.toNatClampNeg⟩]) cells slots ∧ T'.heap = h' ∧ Wr h h' a j.toNatClampNeg (.int (nar .byte x)) ∧ Arv Z h' a kc .byte z (vs.set i (.int (nar .byte x))) dv ∧ ∀ target, Steps p.tables e below (T'.setTop { g with pc := g.pc + 1, stack := rest }) target → Steps p.tables e below (T.setTop g) target := by
  obtain ⟨cl, Ar, q, Sz, Ng, Hs, Ft⟩ := V
  obtain ⟨T', h', X', e', W', st⟩ := stB X hx hZ eT Ar (j := j) (inb_of Sz hin) hg hs hd
  exact ⟨T', h', X', e', W', Arv.set Ar q Sz Ng Hs Ft (fits_nar_byte _) W' i hj hi, st⟩
theorem own_stC (X : Stand p l e R s m args below meth c T locs cells slots) (hx : p.tables.exec = Jvm.exec) (hZ : Z.Warmed39 s.vm) (eT : T.heap = h) (V : Arv Z h a kc .char z vs dv) {j : Int32} {x : Int32} (hin : ¬ j < 0 ∧ j < z) (i : Nat) (hj : j.toNatClampNeg = i) (hi : i < vs.length) (hg : g.method = m) {rest : List Value} (hs : g.stack = .int x :: .int j :: .ref a :: rest) (hd : decode c.code g.pc = .ok (.castore, 1)) :
    ∃ T' h', Stand p l e R s m args below meth c T' (locs ++ [⟨a, j.toNatClampNeg⟩]) cells slots ∧ T'.heap = h' ∧ Wr h h' a j.toNatClampNeg (.int (nar .char x)) ∧ Arv Z h' a kc .char z (vs.set i (.int (nar .char x))) dv ∧ ∀ target, Steps p.tables e below (T'.setTop { g with pc := g.pc + 1, stack := rest }) target → Steps p.tables e below (T.setTop g) target := by
  obtain ⟨cl, Ar, q, Sz, Ng, Hs, Ft⟩ := V
  obtain ⟨T', h', X', e', W', st⟩ := stC X hx hZ eT Ar (j := j) (inb_of Sz hin) hg hs hd
  exact ⟨T', h', X', e', W', Arv.set Ar q Sz Ng Hs Ft (fits_nar_char _) W' i hj hi, st⟩
theorem own_stJ (X : Stand p l e R s m args below meth c T locs cells slots) (hx : p.tables.exec = Jvm.exec) (hZ : Z.Warmed39 s.vm) (eT : T.heap = h) (V : Arv Z h a kc .long z vs dv) {j : Int32} {x : Int64} (hin : ¬ j < 0 ∧ j < z) (i : Nat) (hj : j.toNatClampNeg = i) (hi : i < vs.length) (hg : g.method = m) {rest : List Value} (hs : g.stack = .long x :: .int j :: .ref a :: rest) (hd : decode c.code g.pc = .ok (.lastore, 1)) :
    ∃ T' h', Stand p l e R s m args below meth c T' (locs ++ [⟨a, j.toNatClampNeg⟩]) cells slots ∧ T'.heap = h' ∧ Wr h h' a j.toNatClampNeg (.long x) ∧ Arv Z h' a kc .long z (vs.set i (.long x)) dv ∧ ∀ target, Steps p.tables e below (T'.setTop { g with pc := g.pc + 1, stack := rest }) target → Steps p.tables e below (T.setTop g) target := by
  obtain ⟨cl, Ar, q, Sz, Ng, Hs, Ft⟩ := V
  obtain ⟨T', h', X', e', W', st⟩ := stJ X hx hZ eT Ar (j := j) (inb_of Sz hin) hg hs hd
  exact ⟨T', h', X', e', W', Arv.set Ar q Sz Ng Hs Ft rfl W' i hj hi, st⟩
theorem own_stZ (X : Stand p l e R s m args below meth c T locs cells slots) (hx : p.tables.exec = Jvm.exec) (hZ : Z.Warmed39 s.vm) (eT : T.heap = h) (V : Arv Z h a kc .boolean z vs dv) {j : Int32} {x : Int32} (hin : ¬ j < 0 ∧ j < z) (i : Nat) (hj : j.toNatClampNeg = i) (hi : i < vs.length) (hg : g.method = m) {rest : List Value} (hs : g.stack = .int x :: .int j :: .ref a :: rest) (hd : decode c.code g.pc = .ok (.bastore, 1)) :
    ∃ T' h', Stand p l e R s m args below meth c T' (locs ++ [⟨a, j.toNatClampNeg⟩]) cells slots ∧ T'.heap = h' ∧ Wr h h' a j.toNatClampNeg (.int (nar .boolean x)) ∧ Arv Z h' a kc .boolean z (vs.set i (.int (nar .boolean x))) dv ∧ ∀ target, Steps p.tables e below (T'.setTop { g with pc := g.pc + 1, stack := rest }) target → Steps p.tables e below (T.setTop g) target := by
  obtain ⟨cl, Ar, q, Sz, Ng, Hs, Ft⟩ := V
  obtain ⟨T', h', X', e', W', st⟩ := stZ X hx hZ eT Ar (j := j) (inb_of Sz hin) hg hs hd
  exact ⟨T', h', X', e', W', Arv.set Ar q Sz Ng Hs Ft (fits_nar_bool _) W' i hj hi, st⟩
theorem own_stR (X : Stand p l e R s m args below meth c T locs cells slots) (hx : p.tables.exec = Jvm.exec) (hZ : Z.Warmed39 s.vm) (eT : T.heap = h) (V : Arv Z h a kc ty z vs dv) {j : Int32} {x : Value} (hin : ¬ j < 0 ∧ j < z) (hty : ty.isReference = true) (hf : fits ty x = true) (F : ∀ cl, Arr Z h a cl ty → cl.cls = kc → Sto Z h a x) (i : Nat) (hj : j.toNatClampNeg = i) (hi : i < vs.length) (hg : g.method = m) {rest : List Value} (hs : g.stack = x :: .int j :: .ref a :: rest) (hd : decode c.code g.pc = .ok (.aastore, 1)) :
    ∃ T' h', Stand p l e R s m args below meth c T' (locs ++ [⟨a, j.toNatClampNeg⟩]) cells slots ∧ T'.heap = h' ∧ Wr h h' a j.toNatClampNeg x ∧ Arv Z h' a kc ty z (vs.set i x) dv ∧ ∀ target, Steps p.tables e below (T'.setTop { g with pc := g.pc + 1, stack := rest }) target → Steps p.tables e below (T.setTop g) target := by
  obtain ⟨cl, Ar, q, Sz, Ng, Hs, Ft⟩ := V
  obtain ⟨T', h', X', e', W', st⟩ := stR X hx hZ eT Ar (j := j) (inb_of Sz hin) hty (F cl Ar q) hg hs hd
  exact ⟨T', h', X', e', W', Arv.set Ar q Sz Ng Hs Ft hf W' i hj hi, st⟩
end Arr
section Dbl
open Jvm.Free.XS
variable {tb : Tables} [Ours tb] {target : State} {g : JFrame}
theorem own_dloadN (h : At T m c below) (hx : tb.exec = Jvm.exec) (hg : g.method = m) {k : Fin 4} {v : UInt64} (hd : decode c.code g.pc = .ok (.dload_n k, 1)) (hl : g.locals[k.val]? = some (.val (.double v))) (hr : Steps tb e below (T.setTop { g with pc := g.pc + 1, stack := .double v :: g.stack }) target) : Steps tb e below (T.setTop g) target := by
  subst hg
  jvm_step h [h.top, hx, hd, hl]
  exact hr
theorem own_dload (h : At T m c below) (hx : tb.exec = Jvm.exec) (hg : g.method = m) {k : Nat} {v : UInt64} (hd : decode c.code g.pc = .ok (.dload k, 2)) (hl : g.locals[k]? = some (.val (.double v))) (hr : Steps tb e below (T.setTop { g with pc := g.pc + 2, stack := .double v :: g.stack }) target) : Steps tb e below (T.setTop g) target := by
  subst hg
  jvm_step h [h.top, hx, hd, hl]
  exact hr
theorem own_i2d (h : At T m c below) (hx : tb.exec = Jvm.exec) (hg : g.method = m) {x : Int32} {rest : List Value} (hd : decode c.code g.pc = .ok (.i2d, 1)) (hs : g.stack = .int x :: rest) (hr : Steps tb e below (T.setTop { g with pc := g.pc + 1, stack := .double (FP.i2d x) :: rest }) target) : Steps tb e below (T.setTop g) target := by
  subst hg
  jvm_step h [h.top, hx, hd, hs]
  exact hr
theorem own_dconst0 (h : At T m c below) (hx : tb.exec = Jvm.exec) (hg : g.method = m) (hd : decode c.code g.pc = .ok (.dconst 0, 1)) (hr : Steps tb e below (T.setTop { g with pc := g.pc + 1, stack := .double FP.dconst0 :: g.stack }) target) : Steps tb e below (T.setTop g) target := by
  subst hg
  jvm_step h [h.top, hx, hd]
  exact hr
theorem own_dconst1 (h : At T m c below) (hx : tb.exec = Jvm.exec) (hg : g.method = m) (hd : decode c.code g.pc = .ok (.dconst 1, 1)) (hr : Steps tb e below (T.setTop { g with pc := g.pc + 1, stack := .double FP.dconst1 :: g.stack }) target) : Steps tb e below (T.setTop g) target := by
  subst hg
  jvm_step h [h.top, hx, hd]
  exact hr
theorem own_pop2D (h : At T m c below) (hx : tb.exec = Jvm.exec) (hg : g.method = m) {v : UInt64} {rest : List Value} (hd : decode c.code g.pc = .ok (.pop2, 1)) (hs : g.stack = .double v :: rest) (hr : Steps tb e below (T.setTop { g with pc := g.pc + 1, stack := rest }) target) : Steps tb e below (T.setTop g) target := by
  subst hg
  jvm_step h [h.top, hx, hd, hs, Value.category]
  exact hr
theorem own_lsw (h : At T m c below) (hx : tb.exec = Jvm.exec) (hg : g.method = m) {dflt : Int} {prs : Array (Int × Int)} {len : Nat} {o : Int} {pc0 pc' : Nat} (hpc : g.pc = pc0) (hd : decode c.code g.pc = .ok (.lookupswitch dflt prs, len)) {i : Int32} {rest : List Value} (hs : g.stack = .int i :: rest) (ho : lookupswitch.offset prs.toList dflt i.toInt = o) (h0 : 0 ≤ (pc0 : Int) + o) (hp : ((pc0 : Int) + o).toNat = pc') (hk : (prs.toList.zip prs.toList.tail).all (fun q => decide (q.1.1 < q.2.1)) = true)
    (hr : Steps tb e below (T.setTop { g with pc := pc', stack := rest }) target) : Steps tb e below (T.setTop g) target := by
  subst hg hpc hp
  jvm_step h [h.top, hx, hd, hs, ho, h0, lookupswitch.wp_chain]
  exact ⟨fun a b a' b' hm => by simpa using List.all_eq_true.mp hk _ hm, hr⟩
theorem own_dcmp (h : At T m c below) (hx : tb.exec = Jvm.exec) (hg : g.method = m) {x y : UInt64} {rest : List Value} {op : CmpOp} {o : Ordering} (hd : decode c.code g.pc = .ok (.dcmp op, 1)) (hs : g.stack = .double y :: .double x :: rest) (hc : FP.dcmp x y = some o) (hr : Steps tb e below (T.setTop { g with pc := g.pc + 1, stack := .int (FP.cmpInt 0 (some o)) :: rest }) target) : Steps tb e below (T.setTop g) target := by
  subst hg
  cases o <;> (jvm_step h [h.top, hx, hd, hs, hc, cmpValue]; exact hr)
end Dbl
def own_sel {α : Type} (P : Prop) [Decidable P] (x y : α) : α := if P then x else y
def own_b2i (P : Prop) [Decidable P] : Int32 := if P then 1 else 0
theorem own_b2i_1 {P : Prop} [Decidable P] (h : P) : own_b2i P = 1 := by rw [own_b2i, if_pos h]
theorem own_b2i_congr {P R : Prop} [Decidable P] [Decidable R] (h : P ↔ R) : own_b2i P = own_b2i R := by
  by_cases q : P
  · rw [own_b2i_1 q, own_b2i_1 (h.mp q)]
  · rw [own_b2i, own_b2i, if_neg q, if_neg (fun r => q (h.mpr r))]
theorem own_b2i_t {P : Prop} [Decidable P] (h : P) : ¬ own_b2i P = 0 := by rw [own_b2i, if_pos h]; decide
theorem own_b2i_f {P : Prop} [Decidable P] (h : ¬ P) : own_b2i P = 0 := by rw [own_b2i, if_neg h]
theorem own_sta_keep {C n d : String} {v : Value} (F : Sta Z h C n d v) (K : Keep h h' ws) (q : ∀ st ∈ ws, ∀ c, h[st]? = some c → c.vm.isStatics = false) : Sta Z h' C n d v := by
  obtain ⟨cf, i, k, f, st, cell, h1, h2, h3, h4, h5, h6, h7⟩ := F
  exact ⟨cf, i, k, f, st, cell, h1, h2, h3, h4, K.2.1 st cell h5 (fun z => by rw [q st z cell h5] at h6; cases h6), h6, h7⟩
theorem own_ws0 : ∀ st ∈ ([] : List Addr), ∀ c, h[st]? = some c → c.vm.isStatics = false := fun _ q => nomatch q
theorem own_wsE {a : Addr} {C : String} (F : Exa Z h a C) (q : ∀ st ∈ ws, ∀ c, h[st]? = some c → c.vm.isStatics = false) : ∀ st ∈ a :: ws, ∀ c, h[st]? = some c → c.vm.isStatics = false := fun st hs c hc => by
  rcases List.mem_cons.mp hs with rfl | hs
  · obtain ⟨cell, k, h1, -, -, h4, -⟩ := F; cases h1.symm.trans hc; exact h4
  · exact q st hs c hc
theorem own_wsF {a : Addr} {C n d : String} {v : Value} (F : Fld Z h a C n d v) (q : ∀ st ∈ ws, ∀ c, h[st]? = some c → c.vm.isStatics = false) : ∀ st ∈ a :: ws, ∀ c, h[st]? = some c → c.vm.isStatics = false := fun st hs c hc => by
  rcases List.mem_cons.mp hs with rfl | hs
  · exact old_plain F c hc
  · exact q st hs c hc
theorem own_wsV {a : Addr} {k : ClassId} {ty : FieldType} {z : Int32} {vs : List Value} {dv : Value} (F : Arv Z h a k ty z vs dv) (q : ∀ st ∈ ws, ∀ c, h[st]? = some c → c.vm.isStatics = false) : ∀ st ∈ a :: ws, ∀ c, h[st]? = some c → c.vm.isStatics = false := fun st hs c hc => by
  rcases List.mem_cons.mp hs with rfl | hs
  · obtain ⟨cl, A, -⟩ := F; cases A.1.symm.trans hc; exact A.plain
  · exact q st hs c hc
theorem own_kx (K : Keep h h' []) : Ext h h' := ⟨K.1, fun a c q => K.2.1 a c q nin0⟩
theorem own_ins_keep {a : Addr} {C : String} {bo : Bool} (F : Ins Z h a C bo) (K : Keep h h' ws) : Ins Z h' a C bo := by
  obtain ⟨cell, cT, h1, h2, h3⟩ := F
  obtain ⟨c', q, r1, r2, r3⟩ := K.2.2 a cell h1
  exact ⟨c', cT, q, h2, by rw [r1, r2]; exact h3⟩
end Own
theorem ow4 {Z : State} {a0 : Array Value} (hw : ∀ d ∈ tables_1, d.before a0 Z = true) : (Jvm.Cond.fieldLink "com/example/ushr/ushr/proxy/AttemptNextPinLaw" (7 : Nat) "com/example/ushr/ushr/proxy/Attempt" "FIRST" "Lcom/example/ushr/ushr/proxy/Attempt;").before a0 Z = true := hw _ (List.mem_of_getElem? (i := 4) rfl)
abbrev mn0 : MethodName := ⟨"com/example/ushr/ushr/proxy/AttemptNextPinLaw", "of", "(II)Lcom/example/ushr/ushr/proxy/Attempt;"⟩
theorem ow16 {Z : State} {a0 : Array Value} (hw : ∀ d ∈ tables_1, d.before a0 Z = true) : (Jvm.Cond.fieldLink "com/example/ushr/ushr/proxy/AttemptNextPinLaw" (13 : Nat) "com/example/ushr/ushr/proxy/Attempt" "FIRST_ANEW" "Lcom/example/ushr/ushr/proxy/Attempt;").before a0 Z = true := hw _ (List.mem_of_getElem? (i := 16) rfl)
theorem ow17 {Z : State} {a0 : Array Value} (hw : ∀ d ∈ tables_1, d.before a0 Z = true) : (Jvm.Cond.fieldLink "com/example/ushr/ushr/proxy/AttemptNextPinLaw" (16 : Nat) "com/example/ushr/ushr/proxy/Attempt" "OTHER" "Lcom/example/ushr/ushr/proxy/Attempt;").before a0 Z = true := hw _ (List.mem_of_getElem? (i := 17) rfl)
theorem ow21 {Z : State} {a0 : Array Value} (hw : ∀ d ∈ tables_1, d.before a0 Z = true) : (Jvm.Cond.fieldLink "com/example/ushr/ushr/proxy/AttemptNextPinLaw" (19 : Nat) "com/example/ushr/ushr/proxy/Attempt" "OTHER_ANEW" "Lcom/example/ushr/ushr/proxy/Attempt;").before a0 Z = true := hw _ (List.mem_of_getElem? (i := 21) rfl)
theorem ow12 {Z : State} {a0 : Array Value} (hw : ∀ d ∈ tables_1, d.before a0 Z = true) : (Jvm.Cond.fieldLink "com/example/ushr/ushr/proxy/Attempt" (39 : Nat) "com/example/ushr/ushr/proxy/Attempt" "otherServer" "Z").before a0 Z = true := hw _ (List.mem_of_getElem? (i := 12) rfl)
theorem ow19 {Z : State} {a0 : Array Value} (hw : ∀ d ∈ tables_1, d.before a0 Z = true) : (Jvm.Cond.fieldLink "com/example/ushr/ushr/proxy/Attempt" (13 : Nat) "com/example/ushr/ushr/proxy/Attempt" "OTHER_ANEW" "Lcom/example/ushr/ushr/proxy/Attempt;").before a0 Z = true := hw _ (List.mem_of_getElem? (i := 19) rfl)
abbrev mn1 : MethodName := ⟨"com/example/ushr/ushr/proxy/Attempt", "next", "(Z)Lcom/example/ushr/ushr/proxy/Attempt;"⟩
theorem ow14 {Z : State} {a0 : Array Value} (hw : ∀ d ∈ tables_1, d.before a0 Z = true) : (Jvm.Cond.fieldLink "com/example/ushr/ushr/proxy/Attempt" (7 : Nat) "com/example/ushr/ushr/proxy/Attempt" "FIRST_ANEW" "Lcom/example/ushr/ushr/proxy/Attempt;").before a0 Z = true := hw _ (List.mem_of_getElem? (i := 14) rfl)
theorem ow22 {Z : State} {a0 : Array Value} (hw : ∀ d ∈ tables_1, d.before a0 Z = true) : (Jvm.Cond.fieldLink "com/example/ushr/ushr/proxy/Attempt" (10 : Nat) "com/example/ushr/ushr/proxy/Attempt" "OTHER" "Lcom/example/ushr/ushr/proxy/Attempt;").before a0 Z = true := hw _ (List.mem_of_getElem? (i := 22) rfl)
theorem ow0 {Z : State} {a0 : Array Value} (hw : ∀ d ∈ tables_1, d.before a0 Z = true) : (Jvm.Cond.methodLink "com/example/ushr/ushr/proxy/AttemptNextPinLaw" (22 : Nat) ({ cls := "com/example/ushr/ushr/proxy/AttemptNextPinLaw", name := "of", desc := "(II)Lcom/example/ushr/ushr/proxy/Attempt;" } : Jvm.MethodName)).before a0 Z = true := hw _ (List.mem_of_getElem? (i := 0) rfl)
theorem ow3 {Z : State} {a0 : Array Value} (hw : ∀ d ∈ tables_1, d.before a0 Z = true) : (Jvm.Cond.code ({ cls := "com/example/ushr/ushr/proxy/AttemptNextPinLaw", name := "of", desc := "(II)Lcom/example/ushr/ushr/proxy/Attempt;" } : Jvm.MethodName) method_2_code (2 : Nat) (Option.some (Jvm.ClassFile.FieldType.object "com/example/ushr/ushr/proxy/Attempt"))).before a0 Z = true := hw _ (List.mem_of_getElem? (i := 3) rfl)
theorem ow2 {Z : State} {a0 : Array Value} (hw : ∀ d ∈ tables_1, d.before a0 Z = true) : (Jvm.Cond.initialized "com/example/ushr/ushr/proxy/AttemptNextPinLaw").before a0 Z = true := hw _ (List.mem_of_getElem? (i := 2) rfl)
theorem ow1 {Z : State} {a0 : Array Value} (hw : ∀ d ∈ tables_1, d.before a0 Z = true) : (Jvm.Cond.static ({ cls := "com/example/ushr/ushr/proxy/AttemptNextPinLaw", name := "of", desc := "(II)Lcom/example/ushr/ushr/proxy/Attempt;" } : Jvm.MethodName)).before a0 Z = true := hw _ (List.mem_of_getElem? (i := 1) rfl)
theorem ow7 {Z : State} {a0 : Array Value} (hw : ∀ d ∈ tables_1, d.before a0 Z = true) : (Jvm.Cond.methodLink "com/example/ushr/ushr/proxy/AttemptNextPinLaw" (28 : Nat) ({ cls := "com/example/ushr/ushr/proxy/Attempt", name := "next", desc := "(Z)Lcom/example/ushr/ushr/proxy/Attempt;" } : Jvm.MethodName)).before a0 Z = true := hw _ (List.mem_of_getElem? (i := 7) rfl)
theorem ow11 {Z : State} {a0 : Array Value} (hw : ∀ d ∈ tables_1, d.before a0 Z = true) : (Jvm.Cond.code ({ cls := "com/example/ushr/ushr/proxy/Attempt", name := "next", desc := "(Z)Lcom/example/ushr/ushr/proxy/Attempt;" } : Jvm.MethodName) prog_17_method_5_code (3 : Nat) (Option.some (Jvm.ClassFile.FieldType.object "com/example/ushr/ushr/proxy/Attempt"))).before a0 Z = true := hw _ (List.mem_of_getElem? (i := 11) rfl)
theorem ow5 {Z : State} {a0 : Array Value} (hw : ∀ d ∈ tables_1, d.before a0 Z = true) : (Jvm.Cond.initialized "com/example/ushr/ushr/proxy/Attempt").before a0 Z = true := hw _ (List.mem_of_getElem? (i := 5) rfl)
theorem ow10 {Z : State} {a0 : Array Value} (hw : ∀ d ∈ tables_1, d.before a0 Z = true) : (Jvm.Cond.selects "com/example/ushr/ushr/proxy/Attempt" ({ cls := "com/example/ushr/ushr/proxy/Attempt", name := "next", desc := "(Z)Lcom/example/ushr/ushr/proxy/Attempt;" } : Jvm.MethodName) ({ cls := "com/example/ushr/ushr/proxy/Attempt", name := "next", desc := "(Z)Lcom/example/ushr/ushr/proxy/Attempt;" } : Jvm.MethodName)).before a0 Z = true := hw _ (List.mem_of_getElem? (i := 10) rfl)
theorem ow8 {Z : State} {a0 : Array Value} (hw : ∀ d ∈ tables_1, d.before a0 Z = true) : (Jvm.Cond.declares ({ cls := "com/example/ushr/ushr/proxy/Attempt", name := "next", desc := "(Z)Lcom/example/ushr/ushr/proxy/Attempt;" } : Jvm.MethodName)).before a0 Z = true := hw _ (List.mem_of_getElem? (i := 8) rfl)
theorem ow9 {Z : State} {a0 : Array Value} (hw : ∀ d ∈ tables_1, d.before a0 Z = true) : (Jvm.Cond.instanceMethod ({ cls := "com/example/ushr/ushr/proxy/Attempt", name := "next", desc := "(Z)Lcom/example/ushr/ushr/proxy/Attempt;" } : Jvm.MethodName)).before a0 Z = true := hw _ (List.mem_of_getElem? (i := 9) rfl)
theorem ow6 {Z : State} {a0 : Array Value} (hw : ∀ d ∈ tables_1, d.before a0 Z = true) : (Jvm.Cond.laysStatic "com/example/ushr/ushr/proxy/Attempt" "FIRST" "Lcom/example/ushr/ushr/proxy/Attempt;").before a0 Z = true := hw _ (List.mem_of_getElem? (i := 6) rfl)
theorem ow15 {Z : State} {a0 : Array Value} (hw : ∀ d ∈ tables_1, d.before a0 Z = true) : (Jvm.Cond.laysStatic "com/example/ushr/ushr/proxy/Attempt" "FIRST_ANEW" "Lcom/example/ushr/ushr/proxy/Attempt;").before a0 Z = true := hw _ (List.mem_of_getElem? (i := 15) rfl)
theorem ow18 {Z : State} {a0 : Array Value} (hw : ∀ d ∈ tables_1, d.before a0 Z = true) : (Jvm.Cond.laysStatic "com/example/ushr/ushr/proxy/Attempt" "OTHER" "Lcom/example/ushr/ushr/proxy/Attempt;").before a0 Z = true := hw _ (List.mem_of_getElem? (i := 18) rfl)
theorem ow20 {Z : State} {a0 : Array Value} (hw : ∀ d ∈ tables_1, d.before a0 Z = true) : (Jvm.Cond.laysStatic "com/example/ushr/ushr/proxy/Attempt" "OTHER_ANEW" "Lcom/example/ushr/ushr/proxy/Attempt;").before a0 Z = true := hw _ (List.mem_of_getElem? (i := 20) rfl)
theorem own_fld_of {s : State} {args : Array Value} {t : Term} {a : Addr} {C n d : String} {k : Int32} (ev : t.eval args s none [] s = some (.ref a)) (h : (Cond.eq (.field t C n d) (.int k)).value args s none s [] = some true) : Fld s s.heap a C n d (.int k) := by
  obtain ⟨x, y, h1, h2, k1, k2⟩ := cmp_v (Or.inl h)
  have h3 : y = .int k := (Option.some.inj h2).symm
  subst h3
  obtain ⟨z, rfl⟩ := k2
  have hz : z = k := by
    have h' := h
    simp only [Cond.value, h1, h2] at h'
    simpa using h'
  subst hz
  refine Fld.start ?_
  simpa [Term.eval, ev] using h1
theorem d1_0 : decode method_2_code 0 = .ok (.iload_n 0, 1) := by decide +kernel
theorem d1_1 : decode method_2_code 1 = .ok (.ifCond .ne 17, 3) := by decide +kernel
theorem d1_4 : decode method_2_code 4 = .ok (.iload_n 1, 1) := by decide +kernel
theorem d1_5 : decode method_2_code 5 = .ok (.ifCond .ne 9, 3) := by decide +kernel
theorem d1_8 : decode method_2_code 8 = .ok (.getstatic 7, 3) := by decide +kernel
theorem d1_11 : decode method_2_code 11 = .ok (.goto 6, 3) := by decide +kernel
theorem d1_17 : decode method_2_code 17 = .ok (.areturn, 1) := by decide +kernel
theorem pn_1 : plainName "com/example/ushr/ushr/proxy/AttemptNextPinLaw" = true := by first | (simp [plainName, overriddenIn]; done) | decide +kernel
theorem ef_rm1tt (m : MethodId) (y0 : Int32) (y1 : Int32) : entryFrame m #[(.int y0), (.int y1)] 2 = mkF m 0 #[.val (.int y0), .val (.int y1)] [] := by first | (simp [entryFrame, mkF, argsToLocals, Value.category]; done) | rfl
def Q1tt (Z : State) (y0 : Int32) (y1 : Int32) (wFIRST : Addr) (wFIRST_ANEW : Addr) (wOTHER : Addr) (wOTHER_ANEW : Addr) (h0 : Heap) (n0 : Nat) (v : Option Value) (h : Heap) (L : List Loc) : Prop := v = some (.ref wFIRST) ∧ Fr n0 L ∧ h = h0
set_option maxRecDepth 65536 in
set_option maxHeartbeats 40000000 in
theorem rm1tt (l : Launch) (Z : State) (a0 : Array Value) (hw : ∀ d ∈ tables_1, d.before a0 Z = true) (ws : List Jvm.Cond) (y0 : Int32) (y1 : Int32) (wFIRST : Addr) (wFIRST_ANEW : Addr) (wOTHER : Addr) (wOTHER_ANEW : Addr) (h0 : Heap) (n0 : Nat) (Z0 : n0 ≤ h0.size) (S_FIRST : Sta Z h0 "com/example/ushr/ushr/proxy/Attempt" "FIRST" "Lcom/example/ushr/ushr/proxy/Attempt;" (.ref wFIRST)) (S_FIRST_ANEW : Sta Z h0 "com/example/ushr/ushr/proxy/Attempt" "FIRST_ANEW" "Lcom/example/ushr/ushr/proxy/Attempt;" (.ref wFIRST_ANEW)) (S_OTHER : Sta Z h0 "com/example/ushr/ushr/proxy/Attempt" "OTHER" "Lcom/example/ushr/ushr/proxy/Attempt;" (.ref wOTHER)) (S_OTHER_ANEW : Sta Z h0 "com/example/ushr/ushr/proxy/Attempt" "OTHER_ANEW" "Lcom/example/ushr/ushr/proxy/Attempt;" (.ref wOTHER_ANEW)) (hp0 : y0 = (0 : Int32)) (hp1 : y1 = (0 : Int32)) :
    MetFree l mn0 (head1 (Jvm.Cond.code mn0 method_2_code 2 (some (.object "com/example/ushr/ushr/proxy/Attempt")) :: ws) ({ frames := 0, cells := 0, slots := 0, locals := 0 } : Room)) (fun a U => a = #[(.int y0), (.int y1)] ∧ Z.Warmed39 U.vm ∧ U.heap = h0) (fun _ _ _ _ _ => True) (fun _ U o U' => ∃ v L, o = .returned v ∧ Q1tt Z y0 y1 wFIRST wFIRST_ANEW wOTHER wOTHER_ANEW h0 n0 v U'.heap L ∧ FrameEnd U o U' L ({ frames := 0, cells := 0, slots := 0, locals := 0 } : Room).cells ({ frames := 0, cells := 0, slots := 0, locals := 0 } : Room).slots) := by
  refine MetFree.of_bodySF (plainFor_of_name pn_1) hisR ?_
  intro p e s m args below meth c s₁ Bd hml0 hP hK
  obtain ⟨rfl, hZ, hh⟩ := hP
  have hx := Bd.exec
  have hby := Bd.bytes
  have hml : c.maxLocals = 2 := hml0
  have hown : s.vm.findClass "com/example/ushr/ushr/proxy/AttemptNextPinLaw" = some m.cls := findClass_of_methodNamed Bd.named
  have hnm := (name_of_methodNamed Bd.named Bd.method).1
  have X0 : Stand p l e ({ frames := 0, cells := 0, slots := 0, locals := 0 } : Room) s m #[(.int y0), (.int y1)] below meth c s₁ [] 0 0 := Stand.of_body Bd
  have e0 : s₁.heap = h0 := by rw [← hh, Bd.state]; rfl
  have N0 := Fr.nil n0
  show own_Ends p e below s (Q1tt Z y0 y1 wFIRST wFIRST_ANEW wOTHER wOTHER_ANEW h0 n0) _ _ s₁ _
  rw [ef_rm1tt m y0 y1]
  refine own_go (T' := s₁) (f' := (mkF m 8 #[.val (.int y0), .val (.int y1)] [])) (fun _ k => XS.iloadN X0.here hx rfl (hb hby d1_0) rfl (XS.ifNo X0.here hx rfl (hb hby d1_1) rfl ((if0 _ _).trans (teq hp0).2) (XS.iloadN X0.here hx rfl (hb hby d1_4) rfl (XS.ifNo X0.here hx rfl (hb hby d1_5) rfl ((if0 _ _).trans (teq hp1).2) k)))) ?_
  obtain ⟨T1, X1, e1, st1⟩ := getS2 X0 hx hZ hown (host := "") (Or.inl (ow4 hw)) Via.refl e0 S_FIRST (g := (mkF m 8 #[.val (.int y0), .val (.int y1)] [])) rfl (hb hby d1_8)
  refine own_go (T' := T1) (f' := (mkF m 17 #[.val (.int y0), .val (.int y1)] [(.ref wFIRST)])) (fun _ k => st1 _ (XS.goto X1.here hx rfl (pc0 := 11) (pc' := 17) rfl (hb hby d1_11) (by decide) (by decide) k)) ?_
  refine own_ret X1 (v := some (.ref wFIRST)) (fun h => by rw [Bd.returns] at h; cases h) Bd.notSynchronized (fun fs hr => own_retA X1 hx Bd.returns rfl rfl (hb hby d1_17) hr) ?_ (by decide) (by decide)
  show Q1tt Z y0 y1 wFIRST wFIRST_ANEW wOTHER wOTHER_ANEW h0 n0 _ T1.heap _
  exact ⟨rfl, N0, e1⟩
theorem d1_14 : decode method_2_code 14 = .ok (.getstatic 13, 3) := by decide +kernel
theorem ef_rm1tf (m : MethodId) (y0 : Int32) (y1 : Int32) : entryFrame m #[(.int y0), (.int y1)] 2 = mkF m 0 #[.val (.int y0), .val (.int y1)] [] := by first | (simp [entryFrame, mkF, argsToLocals, Value.category]; done) | rfl
def Q1tf (Z : State) (y0 : Int32) (y1 : Int32) (wFIRST : Addr) (wFIRST_ANEW : Addr) (wOTHER : Addr) (wOTHER_ANEW : Addr) (h0 : Heap) (n0 : Nat) (v : Option Value) (h : Heap) (L : List Loc) : Prop := v = some (.ref wFIRST_ANEW) ∧ Fr n0 L ∧ h = h0
set_option maxRecDepth 65536 in
set_option maxHeartbeats 40000000 in
theorem rm1tf (l : Launch) (Z : State) (a0 : Array Value) (hw : ∀ d ∈ tables_1, d.before a0 Z = true) (ws : List Jvm.Cond) (y0 : Int32) (y1 : Int32) (wFIRST : Addr) (wFIRST_ANEW : Addr) (wOTHER : Addr) (wOTHER_ANEW : Addr) (h0 : Heap) (n0 : Nat) (Z0 : n0 ≤ h0.size) (S_FIRST : Sta Z h0 "com/example/ushr/ushr/proxy/Attempt" "FIRST" "Lcom/example/ushr/ushr/proxy/Attempt;" (.ref wFIRST)) (S_FIRST_ANEW : Sta Z h0 "com/example/ushr/ushr/proxy/Attempt" "FIRST_ANEW" "Lcom/example/ushr/ushr/proxy/Attempt;" (.ref wFIRST_ANEW)) (S_OTHER : Sta Z h0 "com/example/ushr/ushr/proxy/Attempt" "OTHER" "Lcom/example/ushr/ushr/proxy/Attempt;" (.ref wOTHER)) (S_OTHER_ANEW : Sta Z h0 "com/example/ushr/ushr/proxy/Attempt" "OTHER_ANEW" "Lcom/example/ushr/ushr/proxy/Attempt;" (.ref wOTHER_ANEW)) (hp0 : y0 = (0 : Int32)) (hp1 : ¬ (y1 = (0 : Int32))) :
    MetFree l mn0 (head1 (Jvm.Cond.code mn0 method_2_code 2 (some (.object "com/example/ushr/ushr/proxy/Attempt")) :: ws) ({ frames := 0, cells := 0, slots := 0, locals := 0 } : Room)) (fun a U => a = #[(.int y0), (.int y1)] ∧ Z.Warmed39 U.vm ∧ U.heap = h0) (fun _ _ _ _ _ => True) (fun _ U o U' => ∃ v L, o = .returned v ∧ Q1tf Z y0 y1 wFIRST wFIRST_ANEW wOTHER wOTHER_ANEW h0 n0 v U'.heap L ∧ FrameEnd U o U' L ({ frames := 0, cells := 0, slots := 0, locals := 0 } : Room).cells ({ frames := 0, cells := 0, slots := 0, locals := 0 } : Room).slots) := by
  refine MetFree.of_bodySF (plainFor_of_name pn_1) hisR ?_
  intro p e s m args below meth c s₁ Bd hml0 hP hK
  obtain ⟨rfl, hZ, hh⟩ := hP
  have hx := Bd.exec
  have hby := Bd.bytes
  have hml : c.maxLocals = 2 := hml0
  have hown : s.vm.findClass "com/example/ushr/ushr/proxy/AttemptNextPinLaw" = some m.cls := findClass_of_methodNamed Bd.named
  have hnm := (name_of_methodNamed Bd.named Bd.method).1
  have X0 : Stand p l e ({ frames := 0, cells := 0, slots := 0, locals := 0 } : Room) s m #[(.int y0), (.int y1)] below meth c s₁ [] 0 0 := Stand.of_body Bd
  have e0 : s₁.heap = h0 := by rw [← hh, Bd.state]; rfl
  have N0 := Fr.nil n0
  show own_Ends p e below s (Q1tf Z y0 y1 wFIRST wFIRST_ANEW wOTHER wOTHER_ANEW h0 n0) _ _ s₁ _
  rw [ef_rm1tf m y0 y1]
  refine own_go (T' := s₁) (f' := (mkF m 14 #[.val (.int y0), .val (.int y1)] [])) (fun _ k => XS.iloadN X0.here hx rfl (hb hby d1_0) rfl (XS.ifNo X0.here hx rfl (hb hby d1_1) rfl ((if0 _ _).trans (teq hp0).2) (XS.iloadN X0.here hx rfl (hb hby d1_4) rfl (XS.ifYes X0.here hx rfl (pc0 := 5) (pc' := 14) rfl (hb hby d1_5) rfl ((if0 _ _).trans (feq hp1).2) (by decide) (by decide) k)))) ?_
  obtain ⟨T1, X1, e1, st1⟩ := getS2 X0 hx hZ hown (host := "") (Or.inl (ow16 hw)) Via.refl e0 S_FIRST_ANEW (g := (mkF m 14 #[.val (.int y0), .val (.int y1)] [])) rfl (hb hby d1_14)
  refine own_go (T' := T1) (f' := (mkF m 17 #[.val (.int y0), .val (.int y1)] [(.ref wFIRST_ANEW)])) (fun _ k => st1 _ k) ?_
  refine own_ret X1 (v := some (.ref wFIRST_ANEW)) (fun h => by rw [Bd.returns] at h; cases h) Bd.notSynchronized (fun fs hr => own_retA X1 hx Bd.returns rfl rfl (hb hby d1_17) hr) ?_ (by decide) (by decide)
  show Q1tf Z y0 y1 wFIRST wFIRST_ANEW wOTHER wOTHER_ANEW h0 n0 _ T1.heap _
  exact ⟨rfl, N0, e1⟩
theorem d1_18 : decode method_2_code 18 = .ok (.iload_n 1, 1) := by decide +kernel
theorem d1_19 : decode method_2_code 19 = .ok (.ifCond .ne 9, 3) := by decide +kernel
theorem d1_22 : decode method_2_code 22 = .ok (.getstatic 16, 3) := by decide +kernel
theorem d1_25 : decode method_2_code 25 = .ok (.goto 6, 3) := by decide +kernel
theorem d1_31 : decode method_2_code 31 = .ok (.areturn, 1) := by decide +kernel
theorem ef_rm1ft (m : MethodId) (y0 : Int32) (y1 : Int32) : entryFrame m #[(.int y0), (.int y1)] 2 = mkF m 0 #[.val (.int y0), .val (.int y1)] [] := by first | (simp [entryFrame, mkF, argsToLocals, Value.category]; done) | rfl
def Q1ft (Z : State) (y0 : Int32) (y1 : Int32) (wFIRST : Addr) (wFIRST_ANEW : Addr) (wOTHER : Addr) (wOTHER_ANEW : Addr) (h0 : Heap) (n0 : Nat) (v : Option Value) (h : Heap) (L : List Loc) : Prop := v = some (.ref wOTHER) ∧ Fr n0 L ∧ h = h0
set_option maxRecDepth 65536 in
set_option maxHeartbeats 40000000 in
theorem rm1ft (l : Launch) (Z : State) (a0 : Array Value) (hw : ∀ d ∈ tables_1, d.before a0 Z = true) (ws : List Jvm.Cond) (y0 : Int32) (y1 : Int32) (wFIRST : Addr) (wFIRST_ANEW : Addr) (wOTHER : Addr) (wOTHER_ANEW : Addr) (h0 : Heap) (n0 : Nat) (Z0 : n0 ≤ h0.size) (S_FIRST : Sta Z h0 "com/example/ushr/ushr/proxy/Attempt" "FIRST" "Lcom/example/ushr/ushr/proxy/Attempt;" (.ref wFIRST)) (S_FIRST_ANEW : Sta Z h0 "com/example/ushr/ushr/proxy/Attempt" "FIRST_ANEW" "Lcom/example/ushr/ushr/proxy/Attempt;" (.ref wFIRST_ANEW)) (S_OTHER : Sta Z h0 "com/example/ushr/ushr/proxy/Attempt" "OTHER" "Lcom/example/ushr/ushr/proxy/Attempt;" (.ref wOTHER)) (S_OTHER_ANEW : Sta Z h0 "com/example/ushr/ushr/proxy/Attempt" "OTHER_ANEW" "Lcom/example/ushr/ushr/proxy/Attempt;" (.ref wOTHER_ANEW)) (hp0 : ¬ (y0 = (0 : Int32))) (hp1 : y1 = (0 : Int32)) :
    MetFree l mn0 (head1 (Jvm.Cond.code mn0 method_2_code 2 (some (.object "com/example/ushr/ushr/proxy/Attempt")) :: ws) ({ frames := 0, cells := 0, slots := 0, locals := 0 } : Room)) (fun a U => a = #[(.int y0), (.int y1)] ∧ Z.Warmed39 U.vm ∧ U.heap = h0) (fun _ _ _ _ _ => True) (fun _ U o U' => ∃ v L, o = .returned v ∧ Q1ft Z y0 y1 wFIRST wFIRST_ANEW wOTHER wOTHER_ANEW h0 n0 v U'.heap L ∧ FrameEnd U o U' L ({ frames := 0, cells := 0, slots := 0, locals := 0 } : Room).cells ({ frames := 0, cells := 0, slots := 0, locals := 0 } : Room).slots) := by
  refine MetFree.of_bodySF (plainFor_of_name pn_1) hisR ?_
  intro p e s m args below meth c s₁ Bd hml0 hP hK
  obtain ⟨rfl, hZ, hh⟩ := hP
  have hx := Bd.exec
  have hby := Bd.bytes
  have hml : c.maxLocals = 2 := hml0
  have hown : s.vm.findClass "com/example/ushr/ushr/proxy/AttemptNextPinLaw" = some m.cls := findClass_of_methodNamed Bd.named
  have hnm := (name_of_methodNamed Bd.named Bd.method).1
  have X0 : Stand p l e ({ frames := 0, cells := 0, slots := 0, locals := 0 } : Room) s m #[(.int y0), (.int y1)] below meth c s₁ [] 0 0 := Stand.of_body Bd
  have e0 : s₁.heap = h0 := by rw [← hh, Bd.state]; rfl
  have N0 := Fr.nil n0
  show own_Ends p e below s (Q1ft Z y0 y1 wFIRST wFIRST_ANEW wOTHER wOTHER_ANEW h0 n0) _ _ s₁ _
  rw [ef_rm1ft m y0 y1]
  refine own_go (T' := s₁) (f' := (mkF m 22 #[.val (.int y0), .val (.int y1)] [])) (fun _ k => XS.iloadN X0.here hx rfl (hb hby d1_0) rfl (XS.ifYes X0.here hx rfl (pc0 := 1) (pc' := 18) rfl (hb hby d1_1) rfl ((if0 _ _).trans (feq hp0).2) (by decide) (by decide) (XS.iloadN X0.here hx rfl (hb hby d1_18) rfl (XS.ifNo X0.here hx rfl (hb hby d1_19) rfl ((if0 _ _).trans (teq hp1).2) k)))) ?_
  obtain ⟨T1, X1, e1, st1⟩ := getS2 X0 hx hZ hown (host := "") (Or.inl (ow17 hw)) Via.refl e0 S_OTHER (g := (mkF m 22 #[.val (.int y0), .val (.int y1)] [])) rfl (hb hby d1_22)
  refine own_go (T' := T1) (f' := (mkF m 31 #[.val (.int y0), .val (.int y1)] [(.ref wOTHER)])) (fun _ k => st1 _ (XS.goto X1.here hx rfl (pc0 := 25) (pc' := 31) rfl (hb hby d1_25) (by decide) (by decide) k)) ?_
  refine own_ret X1 (v := some (.ref wOTHER)) (fun h => by rw [Bd.returns] at h; cases h) Bd.notSynchronized (fun fs hr => own_retA X1 hx Bd.returns rfl rfl (hb hby d1_31) hr) ?_ (by decide) (by decide)
  show Q1ft Z y0 y1 wFIRST wFIRST_ANEW wOTHER wOTHER_ANEW h0 n0 _ T1.heap _
  exact ⟨rfl, N0, e1⟩
theorem d1_28 : decode method_2_code 28 = .ok (.getstatic 19, 3) := by decide +kernel
theorem ef_rm1ff (m : MethodId) (y0 : Int32) (y1 : Int32) : entryFrame m #[(.int y0), (.int y1)] 2 = mkF m 0 #[.val (.int y0), .val (.int y1)] [] := by first | (simp [entryFrame, mkF, argsToLocals, Value.category]; done) | rfl
def Q1ff (Z : State) (y0 : Int32) (y1 : Int32) (wFIRST : Addr) (wFIRST_ANEW : Addr) (wOTHER : Addr) (wOTHER_ANEW : Addr) (h0 : Heap) (n0 : Nat) (v : Option Value) (h : Heap) (L : List Loc) : Prop := v = some (.ref wOTHER_ANEW) ∧ Fr n0 L ∧ h = h0
set_option maxRecDepth 65536 in
set_option maxHeartbeats 40000000 in
theorem rm1ff (l : Launch) (Z : State) (a0 : Array Value) (hw : ∀ d ∈ tables_1, d.before a0 Z = true) (ws : List Jvm.Cond) (y0 : Int32) (y1 : Int32) (wFIRST : Addr) (wFIRST_ANEW : Addr) (wOTHER : Addr) (wOTHER_ANEW : Addr) (h0 : Heap) (n0 : Nat) (Z0 : n0 ≤ h0.size) (S_FIRST : Sta Z h0 "com/example/ushr/ushr/proxy/Attempt" "FIRST" "Lcom/example/ushr/ushr/proxy/Attempt;" (.ref wFIRST)) (S_FIRST_ANEW : Sta Z h0 "com/example/ushr/ushr/proxy/Attempt" "FIRST_ANEW" "Lcom/example/ushr/ushr/proxy/Attempt;" (.ref wFIRST_ANEW)) (S_OTHER : Sta Z h0 "com/example/ushr/ushr/proxy/Attempt" "OTHER" "Lcom/example/ushr/ushr/proxy/Attempt;" (.ref wOTHER)) (S_OTHER_ANEW : Sta Z h0 "com/example/ushr/ushr/proxy/Attempt" "OTHER_ANEW" "Lcom/example/ushr/ushr/proxy/Attempt;" (.ref wOTHER_ANEW)) (hp0 : ¬ (y0 = (0 : Int32))) (hp1 : ¬ (y1 = (0 : Int32))) :
    MetFree l mn0 (head1 (Jvm.Cond.code mn0 method_2_code 2 (some (.object "com/example/ushr/ushr/proxy/Attempt")) :: ws) ({ frames := 0, cells := 0, slots := 0, locals := 0 } : Room)) (fun a U => a = #[(.int y0), (.int y1)] ∧ Z.Warmed39 U.vm ∧ U.heap = h0) (fun _ _ _ _ _ => True) (fun _ U o U' => ∃ v L, o = .returned v ∧ Q1ff Z y0 y1 wFIRST wFIRST_ANEW wOTHER wOTHER_ANEW h0 n0 v U'.heap L ∧ FrameEnd U o U' L ({ frames := 0, cells := 0, slots := 0, locals := 0 } : Room).cells ({ frames := 0, cells := 0, slots := 0, locals := 0 } : Room).slots) := by
  refine MetFree.of_bodySF (plainFor_of_name pn_1) hisR ?_
  intro p e s m args below meth c s₁ Bd hml0 hP hK
  obtain ⟨rfl, hZ, hh⟩ := hP
  have hx := Bd.exec
  have hby := Bd.bytes
  have hml : c.maxLocals = 2 := hml0
  have hown : s.vm.findClass "com/example/ushr/ushr/proxy/AttemptNextPinLaw" = some m.cls := findClass_of_methodNamed Bd.named
  have hnm := (name_of_methodNamed Bd.named Bd.method).1
  have X0 : Stand p l e ({ frames := 0, cells := 0, slots := 0, locals := 0 } : Room) s m #[(.int y0), (.int y1)] below meth c s₁ [] 0 0 := Stand.of_body Bd
  have e0 : s₁.heap = h0 := by rw [← hh, Bd.state]; rfl
  have N0 := Fr.nil n0
  show own_Ends p e below s (Q1ff Z y0 y1 wFIRST wFIRST_ANEW wOTHER wOTHER_ANEW h0 n0) _ _ s₁ _
  rw [ef_rm1ff m y0 y1]
  refine own_go (T' := s₁) (f' := (mkF m 28 #[.val (.int y0), .val (.int y1)] [])) (fun _ k => XS.iloadN X0.here hx rfl (hb hby d1_0) rfl (XS.ifYes X0.here hx rfl (pc0 := 1) (pc' := 18) rfl (hb hby d1_1) rfl ((if0 _ _).trans (feq hp0).2) (by decide) (by decide) (XS.iloadN X0.here hx rfl (hb hby d1_18) rfl (XS.ifYes X0.here hx rfl (pc0 := 19) (pc' := 28) rfl (hb hby d1_19) rfl ((if0 _ _).trans (feq hp1).2) (by decide) (by decide) k)))) ?_
  obtain ⟨T1, X1, e1, st1⟩ := getS2 X0 hx hZ hown (host := "") (Or.inl (ow21 hw)) Via.refl e0 S_OTHER_ANEW (g := (mkF m 28 #[.val (.int y0), .val (.int y1)] [])) rfl (hb hby d1_28)
  refine own_go (T' := T1) (f' := (mkF m 31 #[.val (.int y0), .val (.int y1)] [(.ref wOTHER_ANEW)])) (fun _ k => st1 _ k) ?_
  refine own_ret X1 (v := some (.ref wOTHER_ANEW)) (fun h => by rw [Bd.returns] at h; cases h) Bd.notSynchronized (fun fs hr => own_retA X1 hx Bd.returns rfl rfl (hb hby d1_31) hr) ?_ (by decide) (by decide)
  show Q1ff Z y0 y1 wFIRST wFIRST_ANEW wOTHER wOTHER_ANEW h0 n0 _ T1.heap _
  exact ⟨rfl, N0, e1⟩
theorem d2_0 : decode prog_17_method_5_code 0 = .ok (.iload_n 1, 1) := by decide +kernel
theorem d2_1 : decode prog_17_method_5_code 1 = .ok (.ifCond .eq 23, 3) := by decide +kernel
theorem d2_4 : decode prog_17_method_5_code 4 = .ok (.aload_n 0, 1) := by decide +kernel
theorem d2_5 : decode prog_17_method_5_code 5 = .ok (.getfield 39, 3) := by decide +kernel
theorem d2_8 : decode prog_17_method_5_code 8 = .ok (.ifCond .eq 9, 3) := by decide +kernel
theorem d2_11 : decode prog_17_method_5_code 11 = .ok (.getstatic 13, 3) := by decide +kernel
theorem d2_14 : decode prog_17_method_5_code 14 = .ok (.goto 6, 3) := by decide +kernel
theorem d2_20 : decode prog_17_method_5_code 20 = .ok (.astore_n 2, 1) := by decide +kernel
theorem d2_21 : decode prog_17_method_5_code 21 = .ok (.goto 19, 3) := by decide +kernel
theorem d2_40 : decode prog_17_method_5_code 40 = .ok (.aload_n 2, 1) := by decide +kernel
theorem d2_41 : decode prog_17_method_5_code 41 = .ok (.areturn, 1) := by decide +kernel
theorem pn_0 : plainName "com/example/ushr/ushr/proxy/Attempt" = true := by first | (simp [plainName, overriddenIn]; done) | decide +kernel
theorem ef_rm211 (m : MethodId) (y0 : Addr) : entryFrame m #[(.ref y0), (.int (1 : Int32))] 3 = mkF m 0 #[.val (.ref y0), .val (.int (1 : Int32)), .unset] [] := by first | (simp [entryFrame, mkF, argsToLocals, Value.category]; done) | rfl
def Q211 (Z : State) (y0 : Addr) (wFIRST : Addr) (wFIRST_ANEW : Addr) (wOTHER : Addr) (wOTHER_ANEW : Addr) (h0 : Heap) (n0 : Nat) (v : Option Value) (h : Heap) (L : List Loc) : Prop := v = some (.ref wOTHER_ANEW) ∧ Fr n0 L ∧ h = h0
set_option maxRecDepth 65536 in
set_option maxHeartbeats 40000000 in
theorem rm211 (l : Launch) (Z : State) (a0 : Array Value) (hw : ∀ d ∈ tables_1, d.before a0 Z = true) (ws : List Jvm.Cond) (y0 : Addr) (wFIRST : Addr) (wFIRST_ANEW : Addr) (wOTHER : Addr) (wOTHER_ANEW : Addr) (h0 : Heap) (n0 : Nat) (Z0 : n0 ≤ h0.size) (S_FIRST : Sta Z h0 "com/example/ushr/ushr/proxy/Attempt" "FIRST" "Lcom/example/ushr/ushr/proxy/Attempt;" (.ref wFIRST)) (S_FIRST_ANEW : Sta Z h0 "com/example/ushr/ushr/proxy/Attempt" "FIRST_ANEW" "Lcom/example/ushr/ushr/proxy/Attempt;" (.ref wFIRST_ANEW)) (S_OTHER : Sta Z h0 "com/example/ushr/ushr/proxy/Attempt" "OTHER" "Lcom/example/ushr/ushr/proxy/Attempt;" (.ref wOTHER)) (S_OTHER_ANEW : Sta Z h0 "com/example/ushr/ushr/proxy/Attempt" "OTHER_ANEW" "Lcom/example/ushr/ushr/proxy/Attempt;" (.ref wOTHER_ANEW)) (F_o : Fld Z h0 y0 "com/example/ushr/ushr/proxy/Attempt" "otherServer" "Z" (.int (1 : Int32))) :
    MetFree l mn1 (head1 (Jvm.Cond.code mn1 prog_17_method_5_code 3 (some (.object "com/example/ushr/ushr/proxy/Attempt")) :: ws) ({ frames := 0, cells := 0, slots := 0, locals := 0 } : Room)) (fun a U => a = #[(.ref y0), (.int (1 : Int32))] ∧ Z.Warmed39 U.vm ∧ U.heap = h0) (fun _ _ _ _ _ => True) (fun _ U o U' => ∃ v L, o = .returned v ∧ Q211 Z y0 wFIRST wFIRST_ANEW wOTHER wOTHER_ANEW h0 n0 v U'.heap L ∧ FrameEnd U o U' L ({ frames := 0, cells := 0, slots := 0, locals := 0 } : Room).cells ({ frames := 0, cells := 0, slots := 0, locals := 0 } : Room).slots) := by
  refine MetFree.of_bodySF (plainFor_of_name pn_0) hisR ?_
  intro p e s m args below meth c s₁ Bd hml0 hP hK
  obtain ⟨rfl, hZ, hh⟩ := hP
  have hx := Bd.exec
  have hby := Bd.bytes
  have hml : c.maxLocals = 3 := hml0
  have hown : s.vm.findClass "com/example/ushr/ushr/proxy/Attempt" = some m.cls := findClass_of_methodNamed Bd.named
  have hnm := (name_of_methodNamed Bd.named Bd.method).1
  have X0 : Stand p l e ({ frames := 0, cells := 0, slots := 0, locals := 0 } : Room) s m #[(.ref y0), (.int (1 : Int32))] below meth c s₁ [] 0 0 := Stand.of_body Bd
  have e0 : s₁.heap = h0 := by rw [← hh, Bd.state]; rfl
  have N0 := Fr.nil n0
  show own_Ends p e below s (Q211 Z y0 wFIRST wFIRST_ANEW wOTHER wOTHER_ANEW h0 n0) _ _ s₁ _
  rw [ef_rm211 m y0]
  refine own_go (T' := s₁) (f' := (mkF m 5 #[.val (.ref y0), .val (.int (1 : Int32)), .unset] [(.ref y0)])) (fun _ k => XS.iloadN X0.here hx rfl (hb hby d2_0) rfl (XS.ifNo X0.here hx rfl (hb hby d2_1) rfl ((if0 _ _).trans (feq (by decide : ¬ ((1 : Int32) = (0 : Int32)))).1) (XS.aloadN X0.here hx rfl (hb hby d2_4) rfl rfl k))) ?_
  obtain ⟨T1, X1, e1, st1⟩ := getF X0 hx hZ hown (host := "") (Or.inl (ow12 hw)) Via.refl e0 F_o (g := (mkF m 5 #[.val (.ref y0), .val (.int (1 : Int32)), .unset] [(.ref y0)])) rfl rfl (hb hby d2_5)
  refine own_go (T' := T1) (f' := (mkF m 11 #[.val (.ref y0), .val (.int (1 : Int32)), .unset] [])) (fun _ k => st1 _ (XS.ifNo X1.here hx rfl (hb hby d2_8) rfl ((if0 _ _).trans (feq (by decide : ¬ ((1 : Int32) = (0 : Int32)))).1) k)) ?_
  obtain ⟨T2, X2, e2, st2⟩ := getS2 X1 hx hZ hown (host := "") (Or.inl (ow19 hw)) Via.refl e1 S_OTHER_ANEW (g := (mkF m 11 #[.val (.ref y0), .val (.int (1 : Int32)), .unset] [])) rfl (hb hby d2_11)
  refine own_go (T' := T2) (f' := (mkF m 41 #[.val (.ref y0), .val (.int (1 : Int32)), .val (.ref wOTHER_ANEW)] [(.ref wOTHER_ANEW)])) (fun _ k => st2 _ (XS.goto X2.here hx rfl (pc0 := 14) (pc' := 20) rfl (hb hby d2_14) (by decide) (by decide) (XS.astoreN X2.here hx rfl (hb hby d2_20) rfl rfl (l' := #[.val (.ref y0), .val (.int (1 : Int32)), .val (.ref wOTHER_ANEW)]) rfl (XS.goto X2.here hx rfl (pc0 := 21) (pc' := 40) rfl (hb hby d2_21) (by decide) (by decide) (XS.aloadN X2.here hx rfl (hb hby d2_40) rfl rfl k))))) ?_
  refine own_ret X2 (v := some (.ref wOTHER_ANEW)) (fun h => by rw [Bd.returns] at h; cases h) Bd.notSynchronized (fun fs hr => own_retA X2 hx Bd.returns rfl rfl (hb hby d2_41) hr) ?_ (by decide) (by decide)
  show Q211 Z y0 wFIRST wFIRST_ANEW wOTHER wOTHER_ANEW h0 n0 _ T2.heap _
  exact ⟨rfl, N0, e2⟩
theorem d2_17 : decode prog_17_method_5_code 17 = .ok (.getstatic 7, 3) := by decide +kernel
theorem ef_rm210 (m : MethodId) (y0 : Addr) : entryFrame m #[(.ref y0), (.int (1 : Int32))] 3 = mkF m 0 #[.val (.ref y0), .val (.int (1 : Int32)), .unset] [] := by first | (simp [entryFrame, mkF, argsToLocals, Value.category]; done) | rfl
def Q210 (Z : State) (y0 : Addr) (wFIRST : Addr) (wFIRST_ANEW : Addr) (wOTHER : Addr) (wOTHER_ANEW : Addr) (h0 : Heap) (n0 : Nat) (v : Option Value) (h : Heap) (L : List Loc) : Prop := v = some (.ref wFIRST_ANEW) ∧ Fr n0 L ∧ h = h0
set_option maxRecDepth 65536 in
set_option maxHeartbeats 40000000 in
theorem rm210 (l : Launch) (Z : State) (a0 : Array Value) (hw : ∀ d ∈ tables_1, d.before a0 Z = true) (ws : List Jvm.Cond) (y0 : Addr) (wFIRST : Addr) (wFIRST_ANEW : Addr) (wOTHER : Addr) (wOTHER_ANEW : Addr) (h0 : Heap) (n0 : Nat) (Z0 : n0 ≤ h0.size) (S_FIRST : Sta Z h0 "com/example/ushr/ushr/proxy/Attempt" "FIRST" "Lcom/example/ushr/ushr/proxy/Attempt;" (.ref wFIRST)) (S_FIRST_ANEW : Sta Z h0 "com/example/ushr/ushr/proxy/Attempt" "FIRST_ANEW" "Lcom/example/ushr/ushr/proxy/Attempt;" (.ref wFIRST_ANEW)) (S_OTHER : Sta Z h0 "com/example/ushr/ushr/proxy/Attempt" "OTHER" "Lcom/example/ushr/ushr/proxy/Attempt;" (.ref wOTHER)) (S_OTHER_ANEW : Sta Z h0 "com/example/ushr/ushr/proxy/Attempt" "OTHER_ANEW" "Lcom/example/ushr/ushr/proxy/Attempt;" (.ref wOTHER_ANEW)) (F_o : Fld Z h0 y0 "com/example/ushr/ushr/proxy/Attempt" "otherServer" "Z" (.int (0 : Int32))) :
    MetFree l mn1 (head1 (Jvm.Cond.code mn1 prog_17_method_5_code 3 (some (.object "com/example/ushr/ushr/proxy/Attempt")) :: ws) ({ frames := 0, cells := 0, slots := 0, locals := 0 } : Room)) (fun a U => a = #[(.ref y0), (.int (1 : Int32))] ∧ Z.Warmed39 U.vm ∧ U.heap = h0) (fun _ _ _ _ _ => True) (fun _ U o U' => ∃ v L, o = .returned v ∧ Q210 Z y0 wFIRST wFIRST_ANEW wOTHER wOTHER_ANEW h0 n0 v U'.heap L ∧ FrameEnd U o U' L ({ frames := 0, cells := 0, slots := 0, locals := 0 } : Room).cells ({ frames := 0, cells := 0, slots := 0, locals := 0 } : Room).slots) := by
  refine MetFree.of_bodySF (plainFor_of_name pn_0) hisR ?_
  intro p e s m args below meth c s₁ Bd hml0 hP hK
  obtain ⟨rfl, hZ, hh⟩ := hP
  have hx := Bd.exec
  have hby := Bd.bytes
  have hml : c.maxLocals = 3 := hml0
  have hown : s.vm.findClass "com/example/ushr/ushr/proxy/Attempt" = some m.cls := findClass_of_methodNamed Bd.named
  have hnm := (name_of_methodNamed Bd.named Bd.method).1
  have X0 : Stand p l e ({ frames := 0, cells := 0, slots := 0, locals := 0 } : Room) s m #[(.ref y0), (.int (1 : Int32))] below meth c s₁ [] 0 0 := Stand.of_body Bd
  have e0 : s₁.heap = h0 := by rw [← hh, Bd.state]; rfl
  have N0 := Fr.nil n0
  show own_Ends p e below s (Q210 Z y0 wFIRST wFIRST_ANEW wOTHER wOTHER_ANEW h0 n0) _ _ s₁ _
  rw [ef_rm210 m y0]
  refine own_go (T' := s₁) (f' := (mkF m 5 #[.val (.ref y0), .val (.int (1 : Int32)), .unset] [(.ref y0)])) (fun _ k => XS.iloadN X0.here hx rfl (hb hby d2_0) rfl (XS.ifNo X0.here hx rfl (hb hby d2_1) rfl ((if0 _ _).trans (feq (by decide : ¬ ((1 : Int32) = (0 : Int32)))).1) (XS.aloadN X0.here hx rfl (hb hby d2_4) rfl rfl k))) ?_
  obtain ⟨T1, X1, e1, st1⟩ := getF X0 hx hZ hown (host := "") (Or.inl (ow12 hw)) Via.refl e0 F_o (g := (mkF m 5 #[.val (.ref y0), .val (.int (1 : Int32)), .unset] [(.ref y0)])) rfl rfl (hb hby d2_5)
  refine own_go (T' := T1) (f' := (mkF m 17 #[.val (.ref y0), .val (.int (1 : Int32)), .unset] [])) (fun _ k => st1 _ (XS.ifYes X1.here hx rfl (pc0 := 8) (pc' := 17) rfl (hb hby d2_8) rfl ((if0 _ _).trans (teq (by decide : ((0 : Int32) = (0 : Int32)))).1) (by decide) (by decide) k)) ?_
  obtain ⟨T2, X2, e2, st2⟩ := getS2 X1 hx hZ hown (host := "") (Or.inl (ow14 hw)) Via.refl e1 S_FIRST_ANEW (g := (mkF m 17 #[.val (.ref y0), .val (.int (1 : Int32)), .unset] [])) rfl (hb hby d2_17)
  refine own_go (T' := T2) (f' := (mkF m 41 #[.val (.ref y0), .val (.int (1 : Int32)), .val (.ref wFIRST_ANEW)] [(.ref wFIRST_ANEW)])) (fun _ k => st2 _ (XS.astoreN X2.here hx rfl (hb hby d2_20) rfl rfl (l' := #[.val (.ref y0), .val (.int (1 : Int32)), .val (.ref wFIRST_ANEW)]) rfl (XS.goto X2.here hx rfl (pc0 := 21) (pc' := 40) rfl (hb hby d2_21) (by decide) (by decide) (XS.aloadN X2.here hx rfl (hb hby d2_40) rfl rfl k)))) ?_
  refine own_ret X2 (v := some (.ref wFIRST_ANEW)) (fun h => by rw [Bd.returns] at h; cases h) Bd.notSynchronized (fun fs hr => own_retA X2 hx Bd.returns rfl rfl (hb hby d2_41) hr) ?_ (by decide) (by decide)
  show Q210 Z y0 wFIRST wFIRST_ANEW wOTHER wOTHER_ANEW h0 n0 _ T2.heap _
  exact ⟨rfl, N0, e2⟩
theorem d2_24 : decode prog_17_method_5_code 24 = .ok (.aload_n 0, 1) := by decide +kernel
theorem d2_25 : decode prog_17_method_5_code 25 = .ok (.getfield 39, 3) := by decide +kernel
theorem d2_28 : decode prog_17_method_5_code 28 = .ok (.ifCond .ne 10, 3) := by decide +kernel
theorem d2_31 : decode prog_17_method_5_code 31 = .ok (.getstatic 10, 3) := by decide +kernel
theorem d2_34 : decode prog_17_method_5_code 34 = .ok (.astore_n 2, 1) := by decide +kernel
theorem d2_35 : decode prog_17_method_5_code 35 = .ok (.goto 5, 3) := by decide +kernel
theorem ef_rm200 (m : MethodId) (y0 : Addr) : entryFrame m #[(.ref y0), (.int (0 : Int32))] 3 = mkF m 0 #[.val (.ref y0), .val (.int (0 : Int32)), .unset] [] := by first | (simp [entryFrame, mkF, argsToLocals, Value.category]; done) | rfl
def Q200 (Z : State) (y0 : Addr) (wFIRST : Addr) (wFIRST_ANEW : Addr) (wOTHER : Addr) (wOTHER_ANEW : Addr) (h0 : Heap) (n0 : Nat) (v : Option Value) (h : Heap) (L : List Loc) : Prop := v = some (.ref wOTHER) ∧ Fr n0 L ∧ h = h0
set_option maxRecDepth 65536 in
set_option maxHeartbeats 40000000 in
theorem rm200 (l : Launch) (Z : State) (a0 : Array Value) (hw : ∀ d ∈ tables_1, d.before a0 Z = true) (ws : List Jvm.Cond) (y0 : Addr) (wFIRST : Addr) (wFIRST_ANEW : Addr) (wOTHER : Addr) (wOTHER_ANEW : Addr) (h0 : Heap) (n0 : Nat) (Z0 : n0 ≤ h0.size) (S_FIRST : Sta Z h0 "com/example/ushr/ushr/proxy/Attempt" "FIRST" "Lcom/example/ushr/ushr/proxy/Attempt;" (.ref wFIRST)) (S_FIRST_ANEW : Sta Z h0 "com/example/ushr/ushr/proxy/Attempt" "FIRST_ANEW" "Lcom/example/ushr/ushr/proxy/Attempt;" (.ref wFIRST_ANEW)) (S_OTHER : Sta Z h0 "com/example/ushr/ushr/proxy/Attempt" "OTHER" "Lcom/example/ushr/ushr/proxy/Attempt;" (.ref wOTHER)) (S_OTHER_ANEW : Sta Z h0 "com/example/ushr/ushr/proxy/Attempt" "OTHER_ANEW" "Lcom/example/ushr/ushr/proxy/Attempt;" (.ref wOTHER_ANEW)) (F_o : Fld Z h0 y0 "com/example/ushr/ushr/proxy/Attempt" "otherServer" "Z" (.int (0 : Int32))) :
    MetFree l mn1 (head1 (Jvm.Cond.code mn1 prog_17_method_5_code 3 (some (.object "com/example/ushr/ushr/proxy/Attempt")) :: ws) ({ frames := 0, cells := 0, slots := 0, locals := 0 } : Room)) (fun a U => a = #[(.ref y0), (.int (0 : Int32))] ∧ Z.Warmed39 U.vm ∧ U.heap = h0) (fun _ _ _ _ _ => True) (fun _ U o U' => ∃ v L, o = .returned v ∧ Q200 Z y0 wFIRST wFIRST_ANEW wOTHER wOTHER_ANEW h0 n0 v U'.heap L ∧ FrameEnd U o U' L ({ frames := 0, cells := 0, slots := 0, locals := 0 } : Room).cells ({ frames := 0, cells := 0, slots := 0, locals := 0 } : Room).slots) := by
  refine MetFree.of_bodySF (plainFor_of_name pn_0) hisR ?_
  intro p e s m args below meth c s₁ Bd hml0 hP hK
  obtain ⟨rfl, hZ, hh⟩ := hP
  have hx := Bd.exec
  have hby := Bd.bytes
  have hml : c.maxLocals = 3 := hml0
  have hown : s.vm.findClass "com/example/ushr/ushr/proxy/Attempt" = some m.cls := findClass_of_methodNamed Bd.named
  have hnm := (name_of_methodNamed Bd.named Bd.method).1
  have X0 : Stand p l e ({ frames := 0, cells := 0, slots := 0, locals := 0 } : Room) s m #[(.ref y0), (.int (0 : Int32))] below meth c s₁ [] 0 0 := Stand.of_body Bd
  have e0 : s₁.heap = h0 := by rw [← hh, Bd.state]; rfl
  have N0 := Fr.nil n0
  show own_Ends p e below s (Q200 Z y0 wFIRST wFIRST_ANEW wOTHER wOTHER_ANEW h0 n0) _ _ s₁ _
  rw [ef_rm200 m y0]
  refine own_go (T' := s₁) (f' := (mkF m 25 #[.val (.ref y0), .val (.int (0 : Int32)), .unset] [(.ref y0)])) (fun _ k => XS.iloadN X0.here hx rfl (hb hby d2_0) rfl (XS.ifYes X0.here hx rfl (pc0 := 1) (pc' := 24) rfl (hb hby d2_1) rfl ((if0 _ _).trans (teq (by decide : ((0 : Int32) = (0 : Int32)))).1) (by decide) (by decide) (XS.aloadN X0.here hx rfl (hb hby d2_24) rfl rfl k))) ?_
  obtain ⟨T1, X1, e1, st1⟩ := getF X0 hx hZ hown (host := "") (Or.inl (ow12 hw)) Via.refl e0 F_o (g := (mkF m 25 #[.val (.ref y0), .val (.int (0 : Int32)), .unset] [(.ref y0)])) rfl rfl (hb hby d2_25)
  refine own_go (T' := T1) (f' := (mkF m 31 #[.val (.ref y0), .val (.int (0 : Int32)), .unset] [])) (fun _ k => st1 _ (XS.ifNo X1.here hx rfl (hb hby d2_28) rfl ((if0 _ _).trans (teq (by decide : ((0 : Int32) = (0 : Int32)))).2) k)) ?_
  obtain ⟨T2, X2, e2, st2⟩ := getS2 X1 hx hZ hown (host := "") (Or.inl (ow22 hw)) Via.refl e1 S_OTHER (g := (mkF m 31 #[.val (.ref y0), .val (.int (0 : Int32)), .unset] [])) rfl (hb hby d2_31)
  refine own_go (T' := T2) (f' := (mkF m 41 #[.val (.ref y0), .val (.int (0 : Int32)), .val (.ref wOTHER)] [(.ref wOTHER)])) (fun _ k => st2 _ (XS.astoreN X2.here hx rfl (hb hby d2_34) rfl rfl (l' := #[.val (.ref y0), .val (.int (0 : Int32)), .val (.ref wOTHER)]) rfl (XS.goto X2.here hx rfl (pc0 := 35) (pc' := 40) rfl (hb hby d2_35) (by decide) (by decide) (XS.aloadN X2.here hx rfl (hb hby d2_40) rfl rfl k)))) ?_
  refine own_ret X2 (v := some (.ref wOTHER)) (fun h => by rw [Bd.returns] at h; cases h) Bd.notSynchronized (fun fs hr => own_retA X2 hx Bd.returns rfl rfl (hb hby d2_41) hr) ?_ (by decide) (by decide)
  show Q200 Z y0 wFIRST wFIRST_ANEW wOTHER wOTHER_ANEW h0 n0 _ T2.heap _
  exact ⟨rfl, N0, e2⟩
theorem d2_38 : decode prog_17_method_5_code 38 = .ok (.aconst_null, 1) := by decide +kernel
theorem d2_39 : decode prog_17_method_5_code 39 = .ok (.astore_n 2, 1) := by decide +kernel
theorem ef_rm201 (m : MethodId) (y0 : Addr) : entryFrame m #[(.ref y0), (.int (0 : Int32))] 3 = mkF m 0 #[.val (.ref y0), .val (.int (0 : Int32)), .unset] [] := by first | (simp [entryFrame, mkF, argsToLocals, Value.category]; done) | rfl
def Q201 (Z : State) (y0 : Addr) (wFIRST : Addr) (wFIRST_ANEW : Addr) (wOTHER : Addr) (wOTHER_ANEW : Addr) (h0 : Heap) (n0 : Nat) (v : Option Value) (h : Heap) (L : List Loc) : Prop := v = some .null ∧ Fr n0 L ∧ h = h0
set_option maxRecDepth 65536 in
set_option maxHeartbeats 40000000 in
theorem rm201 (l : Launch) (Z : State) (a0 : Array Value) (hw : ∀ d ∈ tables_1, d.before a0 Z = true) (ws : List Jvm.Cond) (y0 : Addr) (wFIRST : Addr) (wFIRST_ANEW : Addr) (wOTHER : Addr) (wOTHER_ANEW : Addr) (h0 : Heap) (n0 : Nat) (Z0 : n0 ≤ h0.size) (S_FIRST : Sta Z h0 "com/example/ushr/ushr/proxy/Attempt" "FIRST" "Lcom/example/ushr/ushr/proxy/Attempt;" (.ref wFIRST)) (S_FIRST_ANEW : Sta Z h0 "com/example/ushr/ushr/proxy/Attempt" "FIRST_ANEW" "Lcom/example/ushr/ushr/proxy/Attempt;" (.ref wFIRST_ANEW)) (S_OTHER : Sta Z h0 "com/example/ushr/ushr/proxy/Attempt" "OTHER" "Lcom/example/ushr/ushr/proxy/Attempt;" (.ref wOTHER)) (S_OTHER_ANEW : Sta Z h0 "com/example/ushr/ushr/proxy/Attempt" "OTHER_ANEW" "Lcom/example/ushr/ushr/proxy/Attempt;" (.ref wOTHER_ANEW)) (F_o : Fld Z h0 y0 "com/example/ushr/ushr/proxy/Attempt" "otherServer" "Z" (.int (1 : Int32))) :
    MetFree l mn1 (head1 (Jvm.Cond.code mn1 prog_17_method_5_code 3 (some (.object "com/example/ushr/ushr/proxy/Attempt")) :: ws) ({ frames := 0, cells := 0, slots := 0, locals := 0 } : Room)) (fun a U => a = #[(.ref y0), (.int (0 : Int32))] ∧ Z.Warmed39 U.vm ∧ U.heap = h0) (fun _ _ _ _ _ => True) (fun _ U o U' => ∃ v L, o = .returned v ∧ Q201 Z y0 wFIRST wFIRST_ANEW wOTHER wOTHER_ANEW h0 n0 v U'.heap L ∧ FrameEnd U o U' L ({ frames := 0, cells := 0, slots := 0, locals := 0 } : Room).cells ({ frames := 0, cells := 0, slots := 0, locals := 0 } : Room).slots) := by
  refine MetFree.of_bodySF (plainFor_of_name pn_0) hisR ?_
  intro p e s m args below meth c s₁ Bd hml0 hP hK
  obtain ⟨rfl, hZ, hh⟩ := hP
  have hx := Bd.exec
  have hby := Bd.bytes
  have hml : c.maxLocals = 3 := hml0
  have hown : s.vm.findClass "com/example/ushr/ushr/proxy/Attempt" = some m.cls := findClass_of_methodNamed Bd.named
  have hnm := (name_of_methodNamed Bd.named Bd.method).1
  have X0 : Stand p l e ({ frames := 0, cells := 0, slots := 0, locals := 0 } : Room) s m #[(.ref y0), (.int (0 : Int32))] below meth c s₁ [] 0 0 := Stand.of_body Bd
  have e0 : s₁.heap = h0 := by rw [← hh, Bd.state]; rfl
  have N0 := Fr.nil n0
  show own_Ends p e below s (Q201 Z y0 wFIRST wFIRST_ANEW wOTHER wOTHER_ANEW h0 n0) _ _ s₁ _
  rw [ef_rm201 m y0]
  refine own_go (T' := s₁) (f' := (mkF m 25 #[.val (.ref y0), .val (.int (0 : Int32)), .unset] [(.ref y0)])) (fun _ k => XS.iloadN X0.here hx rfl (hb hby d2_0) rfl (XS.ifYes X0.here hx rfl (pc0 := 1) (pc' := 24) rfl (hb hby d2_1) rfl ((if0 _ _).trans (teq (by decide : ((0 : Int32) = (0 : Int32)))).1) (by decide) (by decide) (XS.aloadN X0.here hx rfl (hb hby d2_24) rfl rfl k))) ?_
  obtain ⟨T1, X1, e1, st1⟩ := getF X0 hx hZ hown (host := "") (Or.inl (ow12 hw)) Via.refl e0 F_o (g := (mkF m 25 #[.val (.ref y0), .val (.int (0 : Int32)), .unset] [(.ref y0)])) rfl rfl (hb hby d2_25)
  refine own_go (T' := T1) (f' := (mkF m 41 #[.val (.ref y0), .val (.int (0 : Int32)), .val .null] [.null])) (fun _ k => st1 _ (XS.ifYes X1.here hx rfl (pc0 := 28) (pc' := 38) rfl (hb hby d2_28) rfl ((if0 _ _).trans (feq (by decide : ¬ ((1 : Int32) = (0 : Int32)))).2) (by decide) (by decide) (XS.aconstNull X1.here hx rfl (hb hby d2_38) (XS.astoreN X1.here hx rfl (hb hby d2_39) rfl rfl (l' := #[.val (.ref y0), .val (.int (0 : Int32)), .val .null]) rfl (XS.aloadN X1.here hx rfl (hb hby d2_40) rfl rfl k))))) ?_
  refine own_ret X1 (v := some .null) (fun h => by rw [Bd.returns] at h; cases h) Bd.notSynchronized (fun fs hr => own_retA X1 hx Bd.returns rfl rfl (hb hby d2_41) hr) ?_ (by decide) (by decide)
  show Q201 Z y0 wFIRST wFIRST_ANEW wOTHER wOTHER_ANEW h0 n0 _ T1.heap _
  exact ⟨rfl, N0, e1⟩
theorem pd0 : parseMethodDescriptor "(II)Lcom/example/ushr/ushr/proxy/Attempt;" = some ⟨[.int, .int], some (.object "com/example/ushr/ushr/proxy/Attempt")⟩ := by decide +kernel
theorem pd1 : parseMethodDescriptor "(Z)Lcom/example/ushr/ushr/proxy/Attempt;" = some ⟨[.boolean], some (.object "com/example/ushr/ushr/proxy/Attempt")⟩ := by decide +kernel
theorem ef_rm0 (m : MethodId) (p0 : Int32) (p1 : Int32) : entryFrame m #[(.int p0), (.int p1)] maxLocals = mkF m 0 #[.val (.int p0), .val (.int p1), .unset, .unset, .unset, .unset, .unset, .unset] [] := by first | (simp [entryFrame, mkF, argsToLocals, Value.category, maxLocals]; done) | rfl
def Q0 (Z : State) (p0 : Int32) (p1 : Int32) (wFIRST : Addr) (wFIRST_ANEW : Addr) (wOTHER : Addr) (wOTHER_ANEW : Addr) (h0 : Heap) (n0 : Nat) (v : Option Value) (h : Heap) (L : List Loc) : Prop := v = some (.int (1 : Int32)) ∧ Fr n0 L
set_option maxRecDepth 65536 in
set_option maxHeartbeats 40000000 in
theorem rm0 (l : Launch) (Z : State) (a0 : Array Value) (hw : ∀ d ∈ tables_1, d.before a0 Z = true) (ws : List Jvm.Cond) (p0 : Int32) (p1 : Int32) (wFIRST : Addr) (wFIRST_ANEW : Addr) (wOTHER : Addr) (wOTHER_ANEW : Addr) (h0 : Heap) (n0 : Nat) (Z0 : n0 ≤ h0.size) (S_FIRST : Sta Z h0 "com/example/ushr/ushr/proxy/Attempt" "FIRST" "Lcom/example/ushr/ushr/proxy/Attempt;" (.ref wFIRST)) (S_FIRST_ANEW : Sta Z h0 "com/example/ushr/ushr/proxy/Attempt" "FIRST_ANEW" "Lcom/example/ushr/ushr/proxy/Attempt;" (.ref wFIRST_ANEW)) (S_OTHER : Sta Z h0 "com/example/ushr/ushr/proxy/Attempt" "OTHER" "Lcom/example/ushr/ushr/proxy/Attempt;" (.ref wOTHER)) (S_OTHER_ANEW : Sta Z h0 "com/example/ushr/ushr/proxy/Attempt" "OTHER_ANEW" "Lcom/example/ushr/ushr/proxy/Attempt;" (.ref wOTHER_ANEW)) (E_FIRST : Exa Z h0 wFIRST "com/example/ushr/ushr/proxy/Attempt") (E_FIRST_ANEW : Exa Z h0 wFIRST_ANEW "com/example/ushr/ushr/proxy/Attempt") (E_OTHER : Exa Z h0 wOTHER "com/example/ushr/ushr/proxy/Attempt") (E_OTHER_ANEW : Exa Z h0 wOTHER_ANEW "com/example/ushr/ushr/proxy/Attempt") (O_FIRST : Fld Z h0 wFIRST "com/example/ushr/ushr/proxy/Attempt" "otherServer" "Z" (.int (0 : Int32))) (O_FIRST_ANEW : Fld Z h0 wFIRST_ANEW "com/example/ushr/ushr/proxy/Attempt" "otherServer" "Z" (.int (0 : Int32))) (O_OTHER : Fld Z h0 wOTHER "com/example/ushr/ushr/proxy/Attempt" "otherServer" "Z" (.int (1 : Int32))) (O_OTHER_ANEW : Fld Z h0 wOTHER_ANEW "com/example/ushr/ushr/proxy/Attempt" "otherServer" "Z" (.int (1 : Int32))) :
    MetFree l x (head1 (Jvm.Cond.code x code maxLocals ret :: ws) room_1) (fun a U => a = #[(.int p0), (.int p1)] ∧ Z.Warmed39 U.vm ∧ U.heap = h0) (fun _ _ _ _ _ => True) (fun _ U o U' => ∃ v L, o = .returned v ∧ Q0 Z p0 p1 wFIRST wFIRST_ANEW wOTHER wOTHER_ANEW h0 n0 v U'.heap L ∧ FrameEnd U o U' L room_1.cells room_1.slots) := by
  refine MetFree.of_bodySF (plainFor_of_name pn_1) hisR ?_
  intro p e s m args below meth c s₁ Bd hml0 hP hK
  obtain ⟨rfl, hZ, hh⟩ := hP
  have hx := Bd.exec
  have hby := Bd.bytes
  have hml : c.maxLocals = 8 := hml0
  have hown : s.vm.findClass "com/example/ushr/ushr/proxy/AttemptNextPinLaw" = some m.cls := findClass_of_methodNamed Bd.named
  have hnm := (name_of_methodNamed Bd.named Bd.method).1
  have X0 : Stand p l e room_1 s m #[(.int p0), (.int p1)] below meth c s₁ [] 0 0 := Stand.of_body Bd
  have e0 : s₁.heap = h0 := by rw [← hh, Bd.state]; rfl
  have N0 := Fr.nil n0
  show own_Ends p e below s (Q0 Z p0 p1 wFIRST wFIRST_ANEW wOTHER wOTHER_ANEW h0 n0) _ _ s₁ _
  rw [ef_rm0 m p0 p1]
  refine own_go (T' := s₁) (f' := (mkF m 6 #[.val (.int p0), .val (.int p1), .val (.int ((p0 >>> ((1 : Int32) &&& 31)) &&& (1 : Int32))), .unset, .unset, .unset, .unset, .unset] [])) (fun _ k => XS.iloadN X0.here hx rfl (hb hby at_0) rfl (XS.iconst X0.here hx rfl (hb hby at_1) (XS.ishr X0.here hx rfl (hb hby at_2) rfl (XS.iconst X0.here hx rfl (hb hby at_3) (XS.iand X0.here hx rfl (hb hby at_4) rfl (XS.istoreN X0.here hx rfl (hb hby at_5) rfl (l' := #[.val (.int p0), .val (.int p1), .val (.int ((p0 >>> ((1 : Int32) &&& 31)) &&& (1 : Int32))), .unset, .unset, .unset, .unset, .unset]) rfl k)))))) ?_
  refine own_go (T' := s₁) (f' := (mkF m 12 #[.val (.int p0), .val (.int p1), .val (.int ((p0 >>> ((1 : Int32) &&& 31)) &&& (1 : Int32))), .val (.int (p0 &&& (1 : Int32))), .unset, .unset, .unset, .unset] [(.int (1 : Int32)), (.int p1)])) (fun _ k => XS.iloadN X0.here hx rfl (hb hby at_6) rfl (XS.iconst X0.here hx rfl (hb hby at_7) (XS.iand X0.here hx rfl (hb hby at_8) rfl (XS.istoreN X0.here hx rfl (hb hby at_9) rfl (l' := #[.val (.int p0), .val (.int p1), .val (.int ((p0 >>> ((1 : Int32) &&& 31)) &&& (1 : Int32))), .val (.int (p0 &&& (1 : Int32))), .unset, .unset, .unset, .unset]) rfl (XS.iloadN X0.here hx rfl (hb hby at_10) rfl (XS.iconst X0.here hx rfl (hb hby at_11) k)))))) ?_
  refine own_go (T' := s₁) (f' := (mkF m 13 #[.val (.int p0), .val (.int p1), .val (.int ((p0 >>> ((1 : Int32) &&& 31)) &&& (1 : Int32))), .val (.int (p0 &&& (1 : Int32))), .unset, .unset, .unset, .unset] [(.int (p1 &&& (1 : Int32)))])) (fun _ k => XS.iand X0.here hx rfl (hb hby at_12) rfl k) ?_
  by_cases hc1 : (p1 &&& (1 : Int32)) = (0 : Int32)
  · refine own_go (T' := s₁) (f' := (mkF m 25 #[.val (.int p0), .val (.int p1), .val (.int ((p0 >>> ((1 : Int32) &&& 31)) &&& (1 : Int32))), .val (.int (p0 &&& (1 : Int32))), .val (.int (0 : Int32)), .unset, .unset, .unset] [(.int (p0 &&& (1 : Int32))), (.int ((p0 >>> ((1 : Int32) &&& 31)) &&& (1 : Int32)))])) (fun _ k => XS.ifYes X0.here hx rfl (pc0 := 13) (pc' := 20) rfl (hb hby at_13) rfl ((if0 _ _).trans (teq hc1).1) (by decide) (by decide) (XS.iconst X0.here hx rfl (hb hby at_20) (XS.istore X0.here hx rfl (hb hby at_21) rfl (l' := #[.val (.int p0), .val (.int p1), .val (.int ((p0 >>> ((1 : Int32) &&& 31)) &&& (1 : Int32))), .val (.int (p0 &&& (1 : Int32))), .val (.int (0 : Int32)), .unset, .unset, .unset]) rfl (XS.iloadN X0.here hx rfl (hb hby at_23) rfl (XS.iloadN X0.here hx rfl (hb hby at_24) rfl k))))) ?_
    by_cases hc2 : ((p0 >>> ((1 : Int32) &&& 31)) &&& (1 : Int32)) = (0 : Int32)
    · by_cases hc3 : (p0 &&& (1 : Int32)) = (0 : Int32)
      · obtain ⟨_, _, ⟨T4, L4, k4, n4⟩, -, X4, ⟨Lc4, hQ4, l4, y4, z4⟩, st4⟩ := Jvm.LawKit.callS X0 hx (y := mn0) hown (mvT hZ (ow0 hw)) (mvT hZ (ow1 hw)) (mvT hZ (ow2 hw)) (mvT hZ (ow3 hw)) (by decide) (backOf (W := 0) (rm1tt l Z a0 hw [] ((p0 >>> ((1 : Int32) &&& 31)) &&& (1 : Int32)) (p0 &&& (1 : Int32)) wFIRST wFIRST_ANEW wOTHER wOTHER_ANEW h0 n0 Z0 S_FIRST S_FIRST_ANEW S_OTHER S_OTHER_ANEW hc2 hc3) hZ (ow3 hw) (ow2 hw) (by decide) (by decide)) (g := (mkF m 25 #[.val (.int p0), .val (.int p1), .val (.int ((p0 >>> ((1 : Int32) &&& 31)) &&& (1 : Int32))), .val (.int (p0 &&& (1 : Int32))), .val (.int (0 : Int32)), .unset, .unset, .unset] [(.int (p0 &&& (1 : Int32))), (.int ((p0 >>> ((1 : Int32) &&& 31)) &&& (1 : Int32)))])) rfl (by rw [hml]; rfl) (argsL := [(.int ((p0 >>> ((1 : Int32) &&& 31)) &&& (1 : Int32))), (.int (p0 &&& (1 : Int32)))]) (rest := []) (lenOf pd0 rfl) rfl (by show 2 * 0 + _ ≤ _; exact Nat.le_of_eq rfl) (hb hby at_25) (fun _ _ => ⟨rfl, e0, (by decide : 0 + 0 ≤ _), (by decide : 0 + 0 ≤ _)⟩)
        dsimp only [Pt.U, Pt.locs, Pt.cells, Pt.slots] at X4 l4 y4 z4 st4 hQ4
        subst l4 y4 z4
        obtain ⟨rfl, N4q, hh4⟩ := hQ4
        have N4 := Fr.app N0 N4q
        refine own_go (T' := T4) (f' := (mkF m 34 #[.val (.int p0), .val (.int p1), .val (.int ((p0 >>> ((1 : Int32) &&& 31)) &&& (1 : Int32))), .val (.int (p0 &&& (1 : Int32))), .val (.int (0 : Int32)), .val (.ref wFIRST), .unset, .unset] [(.int (0 : Int32)), (.ref wFIRST)])) (fun _ k => st4 _ (XS.astore X4.here hx rfl (hb hby at_28) rfl rfl (l' := #[.val (.int p0), .val (.int p1), .val (.int ((p0 >>> ((1 : Int32) &&& 31)) &&& (1 : Int32))), .val (.int (p0 &&& (1 : Int32))), .val (.int (0 : Int32)), .val (.ref wFIRST), .unset, .unset]) rfl (XS.aload X4.here hx rfl (hb hby at_30) rfl rfl (XS.iload X4.here hx rfl (hb hby at_32) rfl k)))) ?_
        obtain ⟨cq5, kq5, q5a, q5b, q5c⟩ := isOf hZ hh4 E_FIRST
        obtain ⟨_, _, ⟨T5, L5, k5, n5⟩, -, X5, ⟨Lc5, hQ5, l5, y5, z5⟩, st5⟩ := X4.virtualBack hx (y := mn1) (z := mn1) hown (mvT hZ (ow7 hw)) (mvT hZ (ow8 hw)) (notFace_of_selects (args := #[]) (mvT hZ (ow10 hw))) (mvT hZ (ow10 hw)) (mvT hZ (ow9 hw)) (by decide) (backOf (W := 0) (rm200 l Z a0 hw [] wFIRST wFIRST wFIRST_ANEW wOTHER wOTHER_ANEW h0 n0 Z0 S_FIRST S_FIRST_ANEW S_OTHER S_OTHER_ANEW O_FIRST) hZ (ow11 hw) (ow5 hw) (by decide) (by decide)) q5a q5c (g := (mkF m 34 #[.val (.int p0), .val (.int p1), .val (.int ((p0 >>> ((1 : Int32) &&& 31)) &&& (1 : Int32))), .val (.int (p0 &&& (1 : Int32))), .val (.int (0 : Int32)), .val (.ref wFIRST), .unset, .unset] [(.int (0 : Int32)), (.ref wFIRST)])) rfl (by rw [hml]; rfl) (Steps.refl _) (argsL := [(.int (0 : Int32))]) (rest := []) (lenOf pd1 rfl) rfl (by show 2 * 0 + _ ≤ _; exact Nat.le_of_eq rfl) (hb hby at_34) (fun _ _ => ⟨rfl, hh4, (by decide : 0 + 0 ≤ _), (by decide : 0 + 0 ≤ _)⟩)
        dsimp only [Pt.U, Pt.locs, Pt.cells, Pt.slots] at X5 l5 y5 z5 st5 hQ5
        subst l5 y5 z5
        obtain ⟨rfl, N5q, hh5⟩ := hQ5
        have N5 := Fr.app N4 N5q
        refine own_go (T' := T5) (f' := (mkF m 58 #[.val (.int p0), .val (.int p1), .val (.int ((p0 >>> ((1 : Int32) &&& 31)) &&& (1 : Int32))), .val (.int (p0 &&& (1 : Int32))), .val (.int (0 : Int32)), .val (.ref wFIRST), .val (.ref wOTHER), .unset] [])) (fun _ k => st5.trans (XS.astore X5.here hx rfl (hb hby at_37) rfl rfl (l' := #[.val (.int p0), .val (.int p1), .val (.int ((p0 >>> ((1 : Int32) &&& 31)) &&& (1 : Int32))), .val (.int (p0 &&& (1 : Int32))), .val (.int (0 : Int32)), .val (.ref wFIRST), .val (.ref wOTHER), .unset]) rfl (XS.iload X5.here hx rfl (hb hby at_39) rfl (XS.ifYes X5.here hx rfl (pc0 := 41) (pc' := 54) rfl (hb hby at_41) rfl ((if0 _ _).trans (teq (by decide : ((0 : Int32) = (0 : Int32)))).1) (by decide) (by decide) (XS.iloadN X5.here hx rfl (hb hby at_54) rfl (XS.ifNo X5.here hx rfl (hb hby at_55) rfl ((if0 _ _).trans (teq hc2).2) k)))))) ?_
        refine own_go (T' := T5) (f' := (mkF m 60 #[.val (.int p0), .val (.int p1), .val (.int ((p0 >>> ((1 : Int32) &&& 31)) &&& (1 : Int32))), .val (.int (p0 &&& (1 : Int32))), .val (.int (0 : Int32)), .val (.ref wFIRST), .val (.ref wOTHER), .unset] [(.int (0 : Int32)), (.int (1 : Int32))])) (fun _ k => XS.iconst X5.here hx rfl (hb hby at_58) (XS.iconst X5.here hx rfl (hb hby at_59) k)) ?_
        obtain ⟨_, _, ⟨T6, L6, k6, n6⟩, -, X6, ⟨Lc6, hQ6, l6, y6, z6⟩, st6⟩ := Jvm.LawKit.callS X5 hx (y := mn0) hown (mvT hZ (ow0 hw)) (mvT hZ (ow1 hw)) (mvT hZ (ow2 hw)) (mvT hZ (ow3 hw)) (by decide) (backOf (W := 0) (rm1ft l Z a0 hw [] (1 : Int32) (0 : Int32) wFIRST wFIRST_ANEW wOTHER wOTHER_ANEW h0 n0 Z0 S_FIRST S_FIRST_ANEW S_OTHER S_OTHER_ANEW (by decide : ¬ ((1 : Int32) = (0 : Int32))) (by decide : ((0 : Int32) = (0 : Int32)))) hZ (ow3 hw) (ow2 hw) (by decide) (by decide)) (g := (mkF m 60 #[.val (.int p0), .val (.int p1), .val (.int ((p0 >>> ((1 : Int32) &&& 31)) &&& (1 : Int32))), .val (.int (p0 &&& (1 : Int32))), .val (.int (0 : Int32)), .val (.ref wFIRST), .val (.ref wOTHER), .unset] [(.int (0 : Int32)), (.int (1 : Int32))])) rfl (by rw [hml]; rfl) (argsL := [(.int (1 : Int32)), (.int (0 : Int32))]) (rest := []) (lenOf pd0 rfl) rfl (by show 2 * 0 + _ ≤ _; exact Nat.le_of_eq rfl) (hb hby at_60) (fun _ _ => ⟨rfl, hh5, (by decide : 0 + 0 ≤ _), (by decide : 0 + 0 ≤ _)⟩)
        dsimp only [Pt.U, Pt.locs, Pt.cells, Pt.slots] at X6 l6 y6 z6 st6 hQ6
        subst l6 y6 z6
        obtain ⟨rfl, N6q, hh6⟩ := hQ6
        have N6 := Fr.app N5 N6q
        refine own_go (T' := T6) (f' := (mkF m 78 #[.val (.int p0), .val (.int p1), .val (.int ((p0 >>> ((1 : Int32) &&& 31)) &&& (1 : Int32))), .val (.int (p0 &&& (1 : Int32))), .val (.int (0 : Int32)), .val (.ref wFIRST), .val (.ref wOTHER), .val (.ref wOTHER)] [])) (fun _ k => st6 _ (XS.astore X6.here hx rfl (hb hby at_63) rfl rfl (l' := #[.val (.int p0), .val (.int p1), .val (.int ((p0 >>> ((1 : Int32) &&& 31)) &&& (1 : Int32))), .val (.int (p0 &&& (1 : Int32))), .val (.int (0 : Int32)), .val (.ref wFIRST), .val (.ref wOTHER), .val (.ref wOTHER)]) rfl (XS.goto X6.here hx rfl (pc0 := 65) (pc' := 71) rfl (hb hby at_65) (by decide) (by decide) (XS.aload X6.here hx rfl (hb hby at_71) rfl rfl (XS.aload X6.here hx rfl (hb hby at_73) rfl rfl (Jvm.RoadKit.acmp (g := (mkF m 75 #[.val (.int p0), .val (.int p1), .val (.int ((p0 >>> ((1 : Int32) &&& 31)) &&& (1 : Int32))), .val (.int (p0 &&& (1 : Int32))), .val (.int (0 : Int32)), .val (.ref wFIRST), .val (.ref wOTHER), .val (.ref wOTHER)] [(.ref wOTHER), (.ref wOTHER)])) X6 hx rfl rfl rfl (pc0 := 75) (pc' := 78) (same := true) rfl (hb hby at_75) rfl (decide_eq_true rfl) (by decide) (by decide) k)))))) ?_
        refine own_go (T' := T6) (f' := (mkF m 83 #[.val (.int p0), .val (.int p1), .val (.int ((p0 >>> ((1 : Int32) &&& 31)) &&& (1 : Int32))), .val (.int (p0 &&& (1 : Int32))), .val (.int (0 : Int32)), .val (.ref wFIRST), .val (.ref wOTHER), .val (.ref wOTHER)] [(.int (1 : Int32))])) (fun _ k => XS.iconst X6.here hx rfl (hb hby at_78) (XS.goto X6.here hx rfl (pc0 := 79) (pc' := 83) rfl (hb hby at_79) (by decide) (by decide) k)) ?_
        refine own_ret X6 (v := some (.int (1 : Int32))) (fun h => by rw [Bd.returns] at h; cases h) Bd.notSynchronized (fun fs hr => retN X6 hx (t := .boolean) Bd.returns (by simp) (hb hby at_83) hr) ?_ (by decide) (by decide)
        show Q0 Z p0 p1 wFIRST wFIRST_ANEW wOTHER wOTHER_ANEW h0 n0 _ T6.heap _
        exact ⟨rfl, N6⟩
      · obtain ⟨_, _, ⟨T7, L7, k7, n7⟩, -, X7, ⟨Lc7, hQ7, l7, y7, z7⟩, st7⟩ := Jvm.LawKit.callS X0 hx (y := mn0) hown (mvT hZ (ow0 hw)) (mvT hZ (ow1 hw)) (mvT hZ (ow2 hw)) (mvT hZ (ow3 hw)) (by decide) (backOf (W := 0) (rm1tf l Z a0 hw [] ((p0 >>> ((1 : Int32) &&& 31)) &&& (1 : Int32)) (p0 &&& (1 : Int32)) wFIRST wFIRST_ANEW wOTHER wOTHER_ANEW h0 n0 Z0 S_FIRST S_FIRST_ANEW S_OTHER S_OTHER_ANEW hc2 hc3) hZ (ow3 hw) (ow2 hw) (by decide) (by decide)) (g := (mkF m 25 #[.val (.int p0), .val (.int p1), .val (.int ((p0 >>> ((1 : Int32) &&& 31)) &&& (1 : Int32))), .val (.int (p0 &&& (1 : Int32))), .val (.int (0 : Int32)), .unset, .unset, .unset] [(.int (p0 &&& (1 : Int32))), (.int ((p0 >>> ((1 : Int32) &&& 31)) &&& (1 : Int32)))])) rfl (by rw [hml]; rfl) (argsL := [(.int ((p0 >>> ((1 : Int32) &&& 31)) &&& (1 : Int32))), (.int (p0 &&& (1 : Int32)))]) (rest := []) (lenOf pd0 rfl) rfl (by show 2 * 0 + _ ≤ _; exact Nat.le_of_eq rfl) (hb hby at_25) (fun _ _ => ⟨rfl, e0, (by decide : 0 + 0 ≤ _), (by decide : 0 + 0 ≤ _)⟩)
        dsimp only [Pt.U, Pt.locs, Pt.cells, Pt.slots] at X7 l7 y7 z7 st7 hQ7
        subst l7 y7 z7
        obtain ⟨rfl, N7q, hh7⟩ := hQ7
        have N7 := Fr.app N0 N7q
        refine own_go (T' := T7) (f' := (mkF m 34 #[.val (.int p0), .val (.int p1), .val (.int ((p0 >>> ((1 : Int32) &&& 31)) &&& (1 : Int32))), .val (.int (p0 &&& (1 : Int32))), .val (.int (0 : Int32)), .val (.ref wFIRST_ANEW), .unset, .unset] [(.int (0 : Int32)), (.ref wFIRST_ANEW)])) (fun _ k => st7 _ (XS.astore X7.here hx rfl (hb hby at_28) rfl rfl (l' := #[.val (.int p0), .val (.int p1), .val (.int ((p0 >>> ((1 : Int32) &&& 31)) &&& (1 : Int32))), .val (.int (p0 &&& (1 : Int32))), .val (.int (0 : Int32)), .val (.ref wFIRST_ANEW), .unset, .unset]) rfl (XS.aload X7.here hx rfl (hb hby at_30) rfl rfl (XS.iload X7.here hx rfl (hb hby at_32) rfl k)))) ?_
        obtain ⟨cq8, kq8, q8a, q8b, q8c⟩ := isOf hZ hh7 E_FIRST_ANEW
        obtain ⟨_, _, ⟨T8, L8, k8, n8⟩, -, X8, ⟨Lc8, hQ8, l8, y8, z8⟩, st8⟩ := X7.virtualBack hx (y := mn1) (z := mn1) hown (mvT hZ (ow7 hw)) (mvT hZ (ow8 hw)) (notFace_of_selects (args := #[]) (mvT hZ (ow10 hw))) (mvT hZ (ow10 hw)) (mvT hZ (ow9 hw)) (by decide) (backOf (W := 0) (rm200 l Z a0 hw [] wFIRST_ANEW wFIRST wFIRST_ANEW wOTHER wOTHER_ANEW h0 n0 Z0 S_FIRST S_FIRST_ANEW S_OTHER S_OTHER_ANEW O_FIRST_ANEW) hZ (ow11 hw) (ow5 hw) (by decide) (by decide)) q8a q8c (g := (mkF m 34 #[.val (.int p0), .val (.int p1), .val (.int ((p0 >>> ((1 : Int32) &&& 31)) &&& (1 : Int32))), .val (.int (p0 &&& (1 : Int32))), .val (.int (0 : Int32)), .val (.ref wFIRST_ANEW), .unset, .unset] [(.int (0 : Int32)), (.ref wFIRST_ANEW)])) rfl (by rw [hml]; rfl) (Steps.refl _) (argsL := [(.int (0 : Int32))]) (rest := []) (lenOf pd1 rfl) rfl (by show 2 * 0 + _ ≤ _; exact Nat.le_of_eq rfl) (hb hby at_34) (fun _ _ => ⟨rfl, hh7, (by decide : 0 + 0 ≤ _), (by decide : 0 + 0 ≤ _)⟩)
        dsimp only [Pt.U, Pt.locs, Pt.cells, Pt.slots] at X8 l8 y8 z8 st8 hQ8
        subst l8 y8 z8
        obtain ⟨rfl, N8q, hh8⟩ := hQ8
        have N8 := Fr.app N7 N8q
        refine own_go (T' := T8) (f' := (mkF m 58 #[.val (.int p0), .val (.int p1), .val (.int ((p0 >>> ((1 : Int32) &&& 31)) &&& (1 : Int32))), .val (.int (p0 &&& (1 : Int32))), .val (.int (0 : Int32)), .val (.ref wFIRST_ANEW), .val (.ref wOTHER), .unset] [])) (fun _ k => st8.trans (XS.astore X8.here hx rfl (hb hby at_37) rfl rfl (l' := #[.val (.int p0), .val (.int p1), .val (.int ((p0 >>> ((1 : Int32) &&& 31)) &&& (1 : Int32))), .val (.int (p0 &&& (1 : Int32))), .val (.int (0 : Int32)), .val (.ref wFIRST_ANEW), .val (.ref wOTHER), .unset]) rfl (XS.iload X8.here hx rfl (hb hby at_39) rfl (XS.ifYes X8.here hx rfl (pc0 := 41) (pc' := 54) rfl (hb hby at_41) rfl ((if0 _ _).trans (teq (by decide : ((0 : Int32) = (0 : Int32)))).1) (by decide) (by decide) (XS.iloadN X8.here hx rfl (hb hby at_54) rfl (XS.ifNo X8.here hx rfl (hb hby at_55) rfl ((if0 _ _).trans (teq hc2).2) k)))))) ?_
        refine own_go (T' := T8) (f' := (mkF m 60 #[.val (.int p0), .val (.int p1), .val (.int ((p0 >>> ((1 : Int32) &&& 31)) &&& (1 : Int32))), .val (.int (p0 &&& (1 : Int32))), .val (.int (0 : Int32)), .val (.ref wFIRST_ANEW), .val (.ref wOTHER), .unset] [(.int (0 : Int32)), (.int (1 : Int32))])) (fun _ k => XS.iconst X8.here hx rfl (hb hby at_58) (XS.iconst X8.here hx rfl (hb hby at_59) k)) ?_
        obtain ⟨_, _, ⟨T9, L9, k9, n9⟩, -, X9, ⟨Lc9, hQ9, l9, y9, z9⟩, st9⟩ := Jvm.LawKit.callS X8 hx (y := mn0) hown (mvT hZ (ow0 hw)) (mvT hZ (ow1 hw)) (mvT hZ (ow2 hw)) (mvT hZ (ow3 hw)) (by decide) (backOf (W := 0) (rm1ft l Z a0 hw [] (1 : Int32) (0 : Int32) wFIRST wFIRST_ANEW wOTHER wOTHER_ANEW h0 n0 Z0 S_FIRST S_FIRST_ANEW S_OTHER S_OTHER_ANEW (by decide : ¬ ((1 : Int32) = (0 : Int32))) (by decide : ((0 : Int32) = (0 : Int32)))) hZ (ow3 hw) (ow2 hw) (by decide) (by decide)) (g := (mkF m 60 #[.val (.int p0), .val (.int p1), .val (.int ((p0 >>> ((1 : Int32) &&& 31)) &&& (1 : Int32))), .val (.int (p0 &&& (1 : Int32))), .val (.int (0 : Int32)), .val (.ref wFIRST_ANEW), .val (.ref wOTHER), .unset] [(.int (0 : Int32)), (.int (1 : Int32))])) rfl (by rw [hml]; rfl) (argsL := [(.int (1 : Int32)), (.int (0 : Int32))]) (rest := []) (lenOf pd0 rfl) rfl (by show 2 * 0 + _ ≤ _; exact Nat.le_of_eq rfl) (hb hby at_60) (fun _ _ => ⟨rfl, hh8, (by decide : 0 + 0 ≤ _), (by decide : 0 + 0 ≤ _)⟩)
        dsimp only [Pt.U, Pt.locs, Pt.cells, Pt.slots] at X9 l9 y9 z9 st9 hQ9
        subst l9 y9 z9
        obtain ⟨rfl, N9q, hh9⟩ := hQ9
        have N9 := Fr.app N8 N9q
        refine own_go (T' := T9) (f' := (mkF m 78 #[.val (.int p0), .val (.int p1), .val (.int ((p0 >>> ((1 : Int32) &&& 31)) &&& (1 : Int32))), .val (.int (p0 &&& (1 : Int32))), .val (.int (0 : Int32)), .val (.ref wFIRST_ANEW), .val (.ref wOTHER), .val (.ref wOTHER)] [])) (fun _ k => st9 _ (XS.astore X9.here hx rfl (hb hby at_63) rfl rfl (l' := #[.val (.int p0), .val (.int p1), .val (.int ((p0 >>> ((1 : Int32) &&& 31)) &&& (1 : Int32))), .val (.int (p0 &&& (1 : Int32))), .val (.int (0 : Int32)), .val (.ref wFIRST_ANEW), .val (.ref wOTHER), .val (.ref wOTHER)]) rfl (XS.goto X9.here hx rfl (pc0 := 65) (pc' := 71) rfl (hb hby at_65) (by decide) (by decide) (XS.aload X9.here hx rfl (hb hby at_71) rfl rfl (XS.aload X9.here hx rfl (hb hby at_73) rfl rfl (Jvm.RoadKit.acmp (g := (mkF m 75 #[.val (.int p0), .val (.int p1), .val (.int ((p0 >>> ((1 : Int32) &&& 31)) &&& (1 : Int32))), .val (.int (p0 &&& (1 : Int32))), .val (.int (0 : Int32)), .val (.ref wFIRST_ANEW), .val (.ref wOTHER), .val (.ref wOTHER)] [(.ref wOTHER), (.ref wOTHER)])) X9 hx rfl rfl rfl (pc0 := 75) (pc' := 78) (same := true) rfl (hb hby at_75) rfl (decide_eq_true rfl) (by decide) (by decide) k)))))) ?_
        refine own_go (T' := T9) (f' := (mkF m 83 #[.val (.int p0), .val (.int p1), .val (.int ((p0 >>> ((1 : Int32) &&& 31)) &&& (1 : Int32))), .val (.int (p0 &&& (1 : Int32))), .val (.int (0 : Int32)), .val (.ref wFIRST_ANEW), .val (.ref wOTHER), .val (.ref wOTHER)] [(.int (1 : Int32))])) (fun _ k => XS.iconst X9.here hx rfl (hb hby at_78) (XS.goto X9.here hx rfl (pc0 := 79) (pc' := 83) rfl (hb hby at_79) (by decide) (by decide) k)) ?_
        refine own_ret X9 (v := some (.int (1 : Int32))) (fun h => by rw [Bd.returns] at h; cases h) Bd.notSynchronized (fun fs hr => retN X9 hx (t := .boolean) Bd.returns (by simp) (hb hby at_83) hr) ?_ (by decide) (by decide)
        show Q0 Z p0 p1 wFIRST wFIRST_ANEW wOTHER wOTHER_ANEW h0 n0 _ T9.heap _
        exact ⟨rfl, N9⟩
    · by_cases hc10 : (p0 &&& (1 : Int32)) = (0 : Int32)
      · obtain ⟨_, _, ⟨T11, L11, k11, n11⟩, -, X11, ⟨Lc11, hQ11, l11, y11, z11⟩, st11⟩ := Jvm.LawKit.callS X0 hx (y := mn0) hown (mvT hZ (ow0 hw)) (mvT hZ (ow1 hw)) (mvT hZ (ow2 hw)) (mvT hZ (ow3 hw)) (by decide) (backOf (W := 0) (rm1ft l Z a0 hw [] ((p0 >>> ((1 : Int32) &&& 31)) &&& (1 : Int32)) (p0 &&& (1 : Int32)) wFIRST wFIRST_ANEW wOTHER wOTHER_ANEW h0 n0 Z0 S_FIRST S_FIRST_ANEW S_OTHER S_OTHER_ANEW hc2 hc10) hZ (ow3 hw) (ow2 hw) (by decide) (by decide)) (g := (mkF m 25 #[.val (.int p0), .val (.int p1), .val (.int ((p0 >>> ((1 : Int32) &&& 31)) &&& (1 : Int32))), .val (.int (p0 &&& (1 : Int32))), .val (.int (0 : Int32)), .unset, .unset, .unset] [(.int (p0 &&& (1 : Int32))), (.int ((p0 >>> ((1 : Int32) &&& 31)) &&& (1 : Int32)))])) rfl (by rw [hml]; rfl) (argsL := [(.int ((p0 >>> ((1 : Int32) &&& 31)) &&& (1 : Int32))), (.int (p0 &&& (1 : Int32)))]) (rest := []) (lenOf pd0 rfl) rfl (by show 2 * 0 + _ ≤ _; exact Nat.le_of_eq rfl) (hb hby at_25) (fun _ _ => ⟨rfl, e0, (by decide : 0 + 0 ≤ _), (by decide : 0 + 0 ≤ _)⟩)
        dsimp only [Pt.U, Pt.locs, Pt.cells, Pt.slots] at X11 l11 y11 z11 st11 hQ11
        subst l11 y11 z11
        obtain ⟨rfl, N11q, hh11⟩ := hQ11
        have N11 := Fr.app N0 N11q
        refine own_go (T' := T11) (f' := (mkF m 34 #[.val (.int p0), .val (.int p1), .val (.int ((p0 >>> ((1 : Int32) &&& 31)) &&& (1 : Int32))), .val (.int (p0 &&& (1 : Int32))), .val (.int (0 : Int32)), .val (.ref wOTHER), .unset, .unset] [(.int (0 : Int32)), (.ref wOTHER)])) (fun _ k => st11 _ (XS.astore X11.here hx rfl (hb hby at_28) rfl rfl (l' := #[.val (.int p0), .val (.int p1), .val (.int ((p0 >>> ((1 : Int32) &&& 31)) &&& (1 : Int32))), .val (.int (p0 &&& (1 : Int32))), .val (.int (0 : Int32)), .val (.ref wOTHER), .unset, .unset]) rfl (XS.aload X11.here hx rfl (hb hby at_30) rfl rfl (XS.iload X11.here hx rfl (hb hby at_32) rfl k)))) ?_
        obtain ⟨cq12, kq12, q12a, q12b, q12c⟩ := isOf hZ hh11 E_OTHER
        obtain ⟨_, _, ⟨T12, L12, k12, n12⟩, -, X12, ⟨Lc12, hQ12, l12, y12, z12⟩, st12⟩ := X11.virtualBack hx (y := mn1) (z := mn1) hown (mvT hZ (ow7 hw)) (mvT hZ (ow8 hw)) (notFace_of_selects (args := #[]) (mvT hZ (ow10 hw))) (mvT hZ (ow10 hw)) (mvT hZ (ow9 hw)) (by decide) (backOf (W := 0) (rm201 l Z a0 hw [] wOTHER wFIRST wFIRST_ANEW wOTHER wOTHER_ANEW h0 n0 Z0 S_FIRST S_FIRST_ANEW S_OTHER S_OTHER_ANEW O_OTHER) hZ (ow11 hw) (ow5 hw) (by decide) (by decide)) q12a q12c (g := (mkF m 34 #[.val (.int p0), .val (.int p1), .val (.int ((p0 >>> ((1 : Int32) &&& 31)) &&& (1 : Int32))), .val (.int (p0 &&& (1 : Int32))), .val (.int (0 : Int32)), .val (.ref wOTHER), .unset, .unset] [(.int (0 : Int32)), (.ref wOTHER)])) rfl (by rw [hml]; rfl) (Steps.refl _) (argsL := [(.int (0 : Int32))]) (rest := []) (lenOf pd1 rfl) rfl (by show 2 * 0 + _ ≤ _; exact Nat.le_of_eq rfl) (hb hby at_34) (fun _ _ => ⟨rfl, hh11, (by decide : 0 + 0 ≤ _), (by decide : 0 + 0 ≤ _)⟩)
        dsimp only [Pt.U, Pt.locs, Pt.cells, Pt.slots] at X12 l12 y12 z12 st12 hQ12
        subst l12 y12 z12
        obtain ⟨rfl, N12q, hh12⟩ := hQ12
        have N12 := Fr.app N11 N12q
        refine own_go (T' := T12) (f' := (mkF m 68 #[.val (.int p0), .val (.int p1), .val (.int ((p0 >>> ((1 : Int32) &&& 31)) &&& (1 : Int32))), .val (.int (p0 &&& (1 : Int32))), .val (.int (0 : Int32)), .val (.ref wOTHER), .val .null, .unset] [])) (fun _ k => st12.trans (XS.astore X12.here hx rfl (hb hby at_37) rfl rfl (l' := #[.val (.int p0), .val (.int p1), .val (.int ((p0 >>> ((1 : Int32) &&& 31)) &&& (1 : Int32))), .val (.int (p0 &&& (1 : Int32))), .val (.int (0 : Int32)), .val (.ref wOTHER), .val .null, .unset]) rfl (XS.iload X12.here hx rfl (hb hby at_39) rfl (XS.ifYes X12.here hx rfl (pc0 := 41) (pc' := 54) rfl (hb hby at_41) rfl ((if0 _ _).trans (teq (by decide : ((0 : Int32) = (0 : Int32)))).1) (by decide) (by decide) (XS.iloadN X12.here hx rfl (hb hby at_54) rfl (XS.ifYes X12.here hx rfl (pc0 := 55) (pc' := 68) rfl (hb hby at_55) rfl ((if0 _ _).trans (feq hc2).2) (by decide) (by decide) k)))))) ?_
        refine own_go (T' := T12) (f' := (mkF m 79 #[.val (.int p0), .val (.int p1), .val (.int ((p0 >>> ((1 : Int32) &&& 31)) &&& (1 : Int32))), .val (.int (p0 &&& (1 : Int32))), .val (.int (0 : Int32)), .val (.ref wOTHER), .val .null, .val .null] [(.int (1 : Int32))])) (fun _ k => XS.aconstNull X12.here hx rfl (hb hby at_68) (XS.astore X12.here hx rfl (hb hby at_69) rfl rfl (l' := #[.val (.int p0), .val (.int p1), .val (.int ((p0 >>> ((1 : Int32) &&& 31)) &&& (1 : Int32))), .val (.int (p0 &&& (1 : Int32))), .val (.int (0 : Int32)), .val (.ref wOTHER), .val .null, .val .null]) rfl (XS.aload X12.here hx rfl (hb hby at_71) rfl rfl (XS.aload X12.here hx rfl (hb hby at_73) rfl rfl (Jvm.RoadKit.acmp (g := (mkF m 75 #[.val (.int p0), .val (.int p1), .val (.int ((p0 >>> ((1 : Int32) &&& 31)) &&& (1 : Int32))), .val (.int (p0 &&& (1 : Int32))), .val (.int (0 : Int32)), .val (.ref wOTHER), .val .null, .val .null] [.null, .null])) X12 hx rfl rfl rfl (pc0 := 75) (pc' := 78) (same := true) rfl (hb hby at_75) rfl (decide_eq_true rfl) (by decide) (by decide) (XS.iconst X12.here hx rfl (hb hby at_78) k)))))) ?_
        refine own_go (T' := T12) (f' := (mkF m 83 #[.val (.int p0), .val (.int p1), .val (.int ((p0 >>> ((1 : Int32) &&& 31)) &&& (1 : Int32))), .val (.int (p0 &&& (1 : Int32))), .val (.int (0 : Int32)), .val (.ref wOTHER), .val .null, .val .null] [(.int (1 : Int32))])) (fun _ k => XS.goto X12.here hx rfl (pc0 := 79) (pc' := 83) rfl (hb hby at_79) (by decide) (by decide) k) ?_
        refine own_ret X12 (v := some (.int (1 : Int32))) (fun h => by rw [Bd.returns] at h; cases h) Bd.notSynchronized (fun fs hr => retN X12 hx (t := .boolean) Bd.returns (by simp) (hb hby at_83) hr) ?_ (by decide) (by decide)
        show Q0 Z p0 p1 wFIRST wFIRST_ANEW wOTHER wOTHER_ANEW h0 n0 _ T12.heap _
        exact ⟨rfl, N12⟩
      · obtain ⟨_, _, ⟨T13, L13, k13, n13⟩, -, X13, ⟨Lc13, hQ13, l13, y13, z13⟩, st13⟩ := Jvm.LawKit.callS X0 hx (y := mn0) hown (mvT hZ (ow0 hw)) (mvT hZ (ow1 hw)) (mvT hZ (ow2 hw)) (mvT hZ (ow3 hw)) (by decide) (backOf (W := 0) (rm1ff l Z a0 hw [] ((p0 >>> ((1 : Int32) &&& 31)) &&& (1 : Int32)) (p0 &&& (1 : Int32)) wFIRST wFIRST_ANEW wOTHER wOTHER_ANEW h0 n0 Z0 S_FIRST S_FIRST_ANEW S_OTHER S_OTHER_ANEW hc2 hc10) hZ (ow3 hw) (ow2 hw) (by decide) (by decide)) (g := (mkF m 25 #[.val (.int p0), .val (.int p1), .val (.int ((p0 >>> ((1 : Int32) &&& 31)) &&& (1 : Int32))), .val (.int (p0 &&& (1 : Int32))), .val (.int (0 : Int32)), .unset, .unset, .unset] [(.int (p0 &&& (1 : Int32))), (.int ((p0 >>> ((1 : Int32) &&& 31)) &&& (1 : Int32)))])) rfl (by rw [hml]; rfl) (argsL := [(.int ((p0 >>> ((1 : Int32) &&& 31)) &&& (1 : Int32))), (.int (p0 &&& (1 : Int32)))]) (rest := []) (lenOf pd0 rfl) rfl (by show 2 * 0 + _ ≤ _; exact Nat.le_of_eq rfl) (hb hby at_25) (fun _ _ => ⟨rfl, e0, (by decide : 0 + 0 ≤ _), (by decide : 0 + 0 ≤ _)⟩)
        dsimp only [Pt.U, Pt.locs, Pt.cells, Pt.slots] at X13 l13 y13 z13 st13 hQ13
        subst l13 y13 z13
        obtain ⟨rfl, N13q, hh13⟩ := hQ13
        have N13 := Fr.app N0 N13q
        refine own_go (T' := T13) (f' := (mkF m 34 #[.val (.int p0), .val (.int p1), .val (.int ((p0 >>> ((1 : Int32) &&& 31)) &&& (1 : Int32))), .val (.int (p0 &&& (1 : Int32))), .val (.int (0 : Int32)), .val (.ref wOTHER_ANEW), .unset, .unset] [(.int (0 : Int32)), (.ref wOTHER_ANEW)])) (fun _ k => st13 _ (XS.astore X13.here hx rfl (hb hby at_28) rfl rfl (l' := #[.val (.int p0), .val (.int p1), .val (.int ((p0 >>> ((1 : Int32) &&& 31)) &&& (1 : Int32))), .val (.int (p0 &&& (1 : Int32))), .val (.int (0 : Int32)), .val (.ref wOTHER_ANEW), .unset, .unset]) rfl (XS.aload X13.here hx rfl (hb hby at_30) rfl rfl (XS.iload X13.here hx rfl (hb hby at_32) rfl k)))) ?_
        obtain ⟨cq14, kq14, q14a, q14b, q14c⟩ := isOf hZ hh13 E_OTHER_ANEW
        obtain ⟨_, _, ⟨T14, L14, k14, n14⟩, -, X14, ⟨Lc14, hQ14, l14, y14, z14⟩, st14⟩ := X13.virtualBack hx (y := mn1) (z := mn1) hown (mvT hZ (ow7 hw)) (mvT hZ (ow8 hw)) (notFace_of_selects (args := #[]) (mvT hZ (ow10 hw))) (mvT hZ (ow10 hw)) (mvT hZ (ow9 hw)) (by decide) (backOf (W := 0) (rm201 l Z a0 hw [] wOTHER_ANEW wFIRST wFIRST_ANEW wOTHER wOTHER_ANEW h0 n0 Z0 S_FIRST S_FIRST_ANEW S_OTHER S_OTHER_ANEW O_OTHER_ANEW) hZ (ow11 hw) (ow5 hw) (by decide) (by decide)) q14a q14c (g := (mkF m 34 #[.val (.int p0), .val (.int p1), .val (.int ((p0 >>> ((1 : Int32) &&& 31)) &&& (1 : Int32))), .val (.int (p0 &&& (1 : Int32))), .val (.int (0 : Int32)), .val (.ref wOTHER_ANEW), .unset, .unset] [(.int (0 : Int32)), (.ref wOTHER_ANEW)])) rfl (by rw [hml]; rfl) (Steps.refl _) (argsL := [(.int (0 : Int32))]) (rest := []) (lenOf pd1 rfl) rfl (by show 2 * 0 + _ ≤ _; exact Nat.le_of_eq rfl) (hb hby at_34) (fun _ _ => ⟨rfl, hh13, (by decide : 0 + 0 ≤ _), (by decide : 0 + 0 ≤ _)⟩)
        dsimp only [Pt.U, Pt.locs, Pt.cells, Pt.slots] at X14 l14 y14 z14 st14 hQ14
        subst l14 y14 z14
        obtain ⟨rfl, N14q, hh14⟩ := hQ14
        have N14 := Fr.app N13 N14q
        refine own_go (T' := T14) (f' := (mkF m 68 #[.val (.int p0), .val (.int p1), .val (.int ((p0 >>> ((1 : Int32) &&& 31)) &&& (1 : Int32))), .val (.int (p0 &&& (1 : Int32))), .val (.int (0 : Int32)), .val (.ref wOTHER_ANEW), .val .null, .unset] [])) (fun _ k => st14.trans (XS.astore X14.here hx rfl (hb hby at_37) rfl rfl (l' := #[.val (.int p0), .val (.int p1), .val (.int ((p0 >>> ((1 : Int32) &&& 31)) &&& (1 : Int32))), .val (.int (p0 &&& (1 : Int32))), .val (.int (0 : Int32)), .val (.ref wOTHER_ANEW), .val .null, .unset]) rfl (XS.iload X14.here hx rfl (hb hby at_39) rfl (XS.ifYes X14.here hx rfl (pc0 := 41) (pc' := 54) rfl (hb hby at_41) rfl ((if0 _ _).trans (teq (by decide : ((0 : Int32) = (0 : Int32)))).1) (by decide) (by decide) (XS.iloadN X14.here hx rfl (hb hby at_54) rfl (XS.ifYes X14.here hx rfl (pc0 := 55) (pc' := 68) rfl (hb hby at_55) rfl ((if0 _ _).trans (feq hc2).2) (by decide) (by decide) k)))))) ?_
        refine own_go (T' := T14) (f' := (mkF m 79 #[.val (.int p0), .val (.int p1), .val (.int ((p0 >>> ((1 : Int32) &&& 31)) &&& (1 : Int32))), .val (.int (p0 &&& (1 : Int32))), .val (.int (0 : Int32)), .val (.ref wOTHER_ANEW), .val .null, .val .null] [(.int (1 : Int32))])) (fun _ k => XS.aconstNull X14.here hx rfl (hb hby at_68) (XS.astore X14.here hx rfl (hb hby at_69) rfl rfl (l' := #[.val (.int p0), .val (.int p1), .val (.int ((p0 >>> ((1 : Int32) &&& 31)) &&& (1 : Int32))), .val (.int (p0 &&& (1 : Int32))), .val (.int (0 : Int32)), .val (.ref wOTHER_ANEW), .val .null, .val .null]) rfl (XS.aload X14.here hx rfl (hb hby at_71) rfl rfl (XS.aload X14.here hx rfl (hb hby at_73) rfl rfl (Jvm.RoadKit.acmp (g := (mkF m 75 #[.val (.int p0), .val (.int p1), .val (.int ((p0 >>> ((1 : Int32) &&& 31)) &&& (1 : Int32))), .val (.int (p0 &&& (1 : Int32))), .val (.int (0 : Int32)), .val (.ref wOTHER_ANEW), .val .null, .val .null] [.null, .null])) X14 hx rfl rfl rfl (pc0 := 75) (pc' := 78) (same := true) rfl (hb hby at_75) rfl (decide_eq_true rfl) (by decide) (by decide) (XS.iconst X14.here hx rfl (hb hby at_78) k)))))) ?_
        refine own_go (T' := T14) (f' := (mkF m 83 #[.val (.int p0), .val (.int p1), .val (.int ((p0 >>> ((1 : Int32) &&& 31)) &&& (1 : Int32))), .val (.int (p0 &&& (1 : Int32))), .val (.int (0 : Int32)), .val (.ref wOTHER_ANEW), .val .null, .val .null] [(.int (1 : Int32))])) (fun _ k => XS.goto X14.here hx rfl (pc0 := 79) (pc' := 83) rfl (hb hby at_79) (by decide) (by decide) k) ?_
        refine own_ret X14 (v := some (.int (1 : Int32))) (fun h => by rw [Bd.returns] at h; cases h) Bd.notSynchronized (fun fs hr => retN X14 hx (t := .boolean) Bd.returns (by simp) (hb hby at_83) hr) ?_ (by decide) (by decide)
        show Q0 Z p0 p1 wFIRST wFIRST_ANEW wOTHER wOTHER_ANEW h0 n0 _ T14.heap _
        exact ⟨rfl, N14⟩
  · refine own_go (T' := s₁) (f' := (mkF m 25 #[.val (.int p0), .val (.int p1), .val (.int ((p0 >>> ((1 : Int32) &&& 31)) &&& (1 : Int32))), .val (.int (p0 &&& (1 : Int32))), .val (.int (1 : Int32)), .unset, .unset, .unset] [(.int (p0 &&& (1 : Int32))), (.int ((p0 >>> ((1 : Int32) &&& 31)) &&& (1 : Int32)))])) (fun _ k => XS.ifNo X0.here hx rfl (hb hby at_13) rfl ((if0 _ _).trans (feq hc1).1) (XS.iconst X0.here hx rfl (hb hby at_16) (XS.goto X0.here hx rfl (pc0 := 17) (pc' := 21) rfl (hb hby at_17) (by decide) (by decide) (XS.istore X0.here hx rfl (hb hby at_21) rfl (l' := #[.val (.int p0), .val (.int p1), .val (.int ((p0 >>> ((1 : Int32) &&& 31)) &&& (1 : Int32))), .val (.int (p0 &&& (1 : Int32))), .val (.int (1 : Int32)), .unset, .unset, .unset]) rfl (XS.iloadN X0.here hx rfl (hb hby at_23) rfl (XS.iloadN X0.here hx rfl (hb hby at_24) rfl k)))))) ?_
    by_cases hc15 : ((p0 >>> ((1 : Int32) &&& 31)) &&& (1 : Int32)) = (0 : Int32)
    · by_cases hc16 : (p0 &&& (1 : Int32)) = (0 : Int32)
      · obtain ⟨_, _, ⟨T17, L17, k17, n17⟩, -, X17, ⟨Lc17, hQ17, l17, y17, z17⟩, st17⟩ := Jvm.LawKit.callS X0 hx (y := mn0) hown (mvT hZ (ow0 hw)) (mvT hZ (ow1 hw)) (mvT hZ (ow2 hw)) (mvT hZ (ow3 hw)) (by decide) (backOf (W := 0) (rm1tt l Z a0 hw [] ((p0 >>> ((1 : Int32) &&& 31)) &&& (1 : Int32)) (p0 &&& (1 : Int32)) wFIRST wFIRST_ANEW wOTHER wOTHER_ANEW h0 n0 Z0 S_FIRST S_FIRST_ANEW S_OTHER S_OTHER_ANEW hc15 hc16) hZ (ow3 hw) (ow2 hw) (by decide) (by decide)) (g := (mkF m 25 #[.val (.int p0), .val (.int p1), .val (.int ((p0 >>> ((1 : Int32) &&& 31)) &&& (1 : Int32))), .val (.int (p0 &&& (1 : Int32))), .val (.int (1 : Int32)), .unset, .unset, .unset] [(.int (p0 &&& (1 : Int32))), (.int ((p0 >>> ((1 : Int32) &&& 31)) &&& (1 : Int32)))])) rfl (by rw [hml]; rfl) (argsL := [(.int ((p0 >>> ((1 : Int32) &&& 31)) &&& (1 : Int32))), (.int (p0 &&& (1 : Int32)))]) (rest := []) (lenOf pd0 rfl) rfl (by show 2 * 0 + _ ≤ _; exact Nat.le_of_eq rfl) (hb hby at_25) (fun _ _ => ⟨rfl, e0, (by decide : 0 + 0 ≤ _), (by decide : 0 + 0 ≤ _)⟩)
        dsimp only [Pt.U, Pt.locs, Pt.cells, Pt.slots] at X17 l17 y17 z17 st17 hQ17
        subst l17 y17 z17
        obtain ⟨rfl, N17q, hh17⟩ := hQ17
        have N17 := Fr.app N0 N17q
        refine own_go (T' := T17) (f' := (mkF m 34 #[.val (.int p0), .val (.int p1), .val (.int ((p0 >>> ((1 : Int32) &&& 31)) &&& (1 : Int32))), .val (.int (p0 &&& (1 : Int32))), .val (.int (1 : Int32)), .val (.ref wFIRST), .unset, .unset] [(.int (1 : Int32)), (.ref wFIRST)])) (fun _ k => st17 _ (XS.astore X17.here hx rfl (hb hby at_28) rfl rfl (l' := #[.val (.int p0), .val (.int p1), .val (.int ((p0 >>> ((1 : Int32) &&& 31)) &&& (1 : Int32))), .val (.int (p0 &&& (1 : Int32))), .val (.int (1 : Int32)), .val (.ref wFIRST), .unset, .unset]) rfl (XS.aload X17.here hx rfl (hb hby at_30) rfl rfl (XS.iload X17.here hx rfl (hb hby at_32) rfl k)))) ?_
        obtain ⟨cq18, kq18, q18a, q18b, q18c⟩ := isOf hZ hh17 E_FIRST
        obtain ⟨_, _, ⟨T18, L18, k18, n18⟩, -, X18, ⟨Lc18, hQ18, l18, y18, z18⟩, st18⟩ := X17.virtualBack hx (y := mn1) (z := mn1) hown (mvT hZ (ow7 hw)) (mvT hZ (ow8 hw)) (notFace_of_selects (args := #[]) (mvT hZ (ow10 hw))) (mvT hZ (ow10 hw)) (mvT hZ (ow9 hw)) (by decide) (backOf (W := 0) (rm210 l Z a0 hw [] wFIRST wFIRST wFIRST_ANEW wOTHER wOTHER_ANEW h0 n0 Z0 S_FIRST S_FIRST_ANEW S_OTHER S_OTHER_ANEW O_FIRST) hZ (ow11 hw) (ow5 hw) (by decide) (by decide)) q18a q18c (g := (mkF m 34 #[.val (.int p0), .val (.int p1), .val (.int ((p0 >>> ((1 : Int32) &&& 31)) &&& (1 : Int32))), .val (.int (p0 &&& (1 : Int32))), .val (.int (1 : Int32)), .val (.ref wFIRST), .unset, .unset] [(.int (1 : Int32)), (.ref wFIRST)])) rfl (by rw [hml]; rfl) (Steps.refl _) (argsL := [(.int (1 : Int32))]) (rest := []) (lenOf pd1 rfl) rfl (by show 2 * 0 + _ ≤ _; exact Nat.le_of_eq rfl) (hb hby at_34) (fun _ _ => ⟨rfl, hh17, (by decide : 0 + 0 ≤ _), (by decide : 0 + 0 ≤ _)⟩)
        dsimp only [Pt.U, Pt.locs, Pt.cells, Pt.slots] at X18 l18 y18 z18 st18 hQ18
        subst l18 y18 z18
        obtain ⟨rfl, N18q, hh18⟩ := hQ18
        have N18 := Fr.app N17 N18q
        refine own_go (T' := T18) (f' := (mkF m 46 #[.val (.int p0), .val (.int p1), .val (.int ((p0 >>> ((1 : Int32) &&& 31)) &&& (1 : Int32))), .val (.int (p0 &&& (1 : Int32))), .val (.int (1 : Int32)), .val (.ref wFIRST), .val (.ref wFIRST_ANEW), .unset] [(.int (1 : Int32)), (.int ((p0 >>> ((1 : Int32) &&& 31)) &&& (1 : Int32)))])) (fun _ k => st18.trans (XS.astore X18.here hx rfl (hb hby at_37) rfl rfl (l' := #[.val (.int p0), .val (.int p1), .val (.int ((p0 >>> ((1 : Int32) &&& 31)) &&& (1 : Int32))), .val (.int (p0 &&& (1 : Int32))), .val (.int (1 : Int32)), .val (.ref wFIRST), .val (.ref wFIRST_ANEW), .unset]) rfl (XS.iload X18.here hx rfl (hb hby at_39) rfl (XS.ifNo X18.here hx rfl (hb hby at_41) rfl ((if0 _ _).trans (feq (by decide : ¬ ((1 : Int32) = (0 : Int32)))).1) (XS.iloadN X18.here hx rfl (hb hby at_44) rfl (XS.iconst X18.here hx rfl (hb hby at_45) k)))))) ?_
        obtain ⟨_, _, ⟨T19, L19, k19, n19⟩, -, X19, ⟨Lc19, hQ19, l19, y19, z19⟩, st19⟩ := Jvm.LawKit.callS X18 hx (y := mn0) hown (mvT hZ (ow0 hw)) (mvT hZ (ow1 hw)) (mvT hZ (ow2 hw)) (mvT hZ (ow3 hw)) (by decide) (backOf (W := 0) (rm1tf l Z a0 hw [] ((p0 >>> ((1 : Int32) &&& 31)) &&& (1 : Int32)) (1 : Int32) wFIRST wFIRST_ANEW wOTHER wOTHER_ANEW h0 n0 Z0 S_FIRST S_FIRST_ANEW S_OTHER S_OTHER_ANEW hc15 (by decide : ¬ ((1 : Int32) = (0 : Int32)))) hZ (ow3 hw) (ow2 hw) (by decide) (by decide)) (g := (mkF m 46 #[.val (.int p0), .val (.int p1), .val (.int ((p0 >>> ((1 : Int32) &&& 31)) &&& (1 : Int32))), .val (.int (p0 &&& (1 : Int32))), .val (.int (1 : Int32)), .val (.ref wFIRST), .val (.ref wFIRST_ANEW), .unset] [(.int (1 : Int32)), (.int ((p0 >>> ((1 : Int32) &&& 31)) &&& (1 : Int32)))])) rfl (by rw [hml]; rfl) (argsL := [(.int ((p0 >>> ((1 : Int32) &&& 31)) &&& (1 : Int32))), (.int (1 : Int32))]) (rest := []) (lenOf pd0 rfl) rfl (by show 2 * 0 + _ ≤ _; exact Nat.le_of_eq rfl) (hb hby at_46) (fun _ _ => ⟨rfl, hh18, (by decide : 0 + 0 ≤ _), (by decide : 0 + 0 ≤ _)⟩)
        dsimp only [Pt.U, Pt.locs, Pt.cells, Pt.slots] at X19 l19 y19 z19 st19 hQ19
        subst l19 y19 z19
        obtain ⟨rfl, N19q, hh19⟩ := hQ19
        have N19 := Fr.app N18 N19q
        refine own_go (T' := T19) (f' := (mkF m 78 #[.val (.int p0), .val (.int p1), .val (.int ((p0 >>> ((1 : Int32) &&& 31)) &&& (1 : Int32))), .val (.int (p0 &&& (1 : Int32))), .val (.int (1 : Int32)), .val (.ref wFIRST), .val (.ref wFIRST_ANEW), .val (.ref wFIRST_ANEW)] [])) (fun _ k => st19 _ (XS.astore X19.here hx rfl (hb hby at_49) rfl rfl (l' := #[.val (.int p0), .val (.int p1), .val (.int ((p0 >>> ((1 : Int32) &&& 31)) &&& (1 : Int32))), .val (.int (p0 &&& (1 : Int32))), .val (.int (1 : Int32)), .val (.ref wFIRST), .val (.ref wFIRST_ANEW), .val (.ref wFIRST_ANEW)]) rfl (XS.goto X19.here hx rfl (pc0 := 51) (pc' := 71) rfl (hb hby at_51) (by decide) (by decide) (XS.aload X19.here hx rfl (hb hby at_71) rfl rfl (XS.aload X19.here hx rfl (hb hby at_73) rfl rfl (Jvm.RoadKit.acmp (g := (mkF m 75 #[.val (.int p0), .val (.int p1), .val (.int ((p0 >>> ((1 : Int32) &&& 31)) &&& (1 : Int32))), .val (.int (p0 &&& (1 : Int32))), .val (.int (1 : Int32)), .val (.ref wFIRST), .val (.ref wFIRST_ANEW), .val (.ref wFIRST_ANEW)] [(.ref wFIRST_ANEW), (.ref wFIRST_ANEW)])) X19 hx rfl rfl rfl (pc0 := 75) (pc' := 78) (same := true) rfl (hb hby at_75) rfl (decide_eq_true rfl) (by decide) (by decide) k)))))) ?_
        refine own_go (T' := T19) (f' := (mkF m 83 #[.val (.int p0), .val (.int p1), .val (.int ((p0 >>> ((1 : Int32) &&& 31)) &&& (1 : Int32))), .val (.int (p0 &&& (1 : Int32))), .val (.int (1 : Int32)), .val (.ref wFIRST), .val (.ref wFIRST_ANEW), .val (.ref wFIRST_ANEW)] [(.int (1 : Int32))])) (fun _ k => XS.iconst X19.here hx rfl (hb hby at_78) (XS.goto X19.here hx rfl (pc0 := 79) (pc' := 83) rfl (hb hby at_79) (by decide) (by decide) k)) ?_
        refine own_ret X19 (v := some (.int (1 : Int32))) (fun h => by rw [Bd.returns] at h; cases h) Bd.notSynchronized (fun fs hr => retN X19 hx (t := .boolean) Bd.returns (by simp) (hb hby at_83) hr) ?_ (by decide) (by decide)
        show Q0 Z p0 p1 wFIRST wFIRST_ANEW wOTHER wOTHER_ANEW h0 n0 _ T19.heap _
        exact ⟨rfl, N19⟩
      · obtain ⟨_, _, ⟨T20, L20, k20, n20⟩, -, X20, ⟨Lc20, hQ20, l20, y20, z20⟩, st20⟩ := Jvm.LawKit.callS X0 hx (y := mn0) hown (mvT hZ (ow0 hw)) (mvT hZ (ow1 hw)) (mvT hZ (ow2 hw)) (mvT hZ (ow3 hw)) (by decide) (backOf (W := 0) (rm1tf l Z a0 hw [] ((p0 >>> ((1 : Int32) &&& 31)) &&& (1 : Int32)) (p0 &&& (1 : Int32)) wFIRST wFIRST_ANEW wOTHER wOTHER_ANEW h0 n0 Z0 S_FIRST S_FIRST_ANEW S_OTHER S_OTHER_ANEW hc15 hc16) hZ (ow3 hw) (ow2 hw) (by decide) (by decide)) (g := (mkF m 25 #[.val (.int p0), .val (.int p1), .val (.int ((p0 >>> ((1 : Int32) &&& 31)) &&& (1 : Int32))), .val (.int (p0 &&& (1 : Int32))), .val (.int (1 : Int32)), .unset, .unset, .unset] [(.int (p0 &&& (1 : Int32))), (.int ((p0 >>> ((1 : Int32) &&& 31)) &&& (1 : Int32)))])) rfl (by rw [hml]; rfl) (argsL := [(.int ((p0 >>> ((1 : Int32) &&& 31)) &&& (1 : Int32))), (.int (p0 &&& (1 : Int32)))]) (rest := []) (lenOf pd0 rfl) rfl (by show 2 * 0 + _ ≤ _; exact Nat.le_of_eq rfl) (hb hby at_25) (fun _ _ => ⟨rfl, e0, (by decide : 0 + 0 ≤ _), (by decide : 0 + 0 ≤ _)⟩)
        dsimp only [Pt.U, Pt.locs, Pt.cells, Pt.slots] at X20 l20 y20 z20 st20 hQ20
        subst l20 y20 z20
        obtain ⟨rfl, N20q, hh20⟩ := hQ20
        have N20 := Fr.app N0 N20q
        refine own_go (T' := T20) (f' := (mkF m 34 #[.val (.int p0), .val (.int p1), .val (.int ((p0 >>> ((1 : Int32) &&& 31)) &&& (1 : Int32))), .val (.int (p0 &&& (1 : Int32))), .val (.int (1 : Int32)), .val (.ref wFIRST_ANEW), .unset, .unset] [(.int (1 : Int32)), (.ref wFIRST_ANEW)])) (fun _ k => st20 _ (XS.astore X20.here hx rfl (hb hby at_28) rfl rfl (l' := #[.val (.int p0), .val (.int p1), .val (.int ((p0 >>> ((1 : Int32) &&& 31)) &&& (1 : Int32))), .val (.int (p0 &&& (1 : Int32))), .val (.int (1 : Int32)), .val (.ref wFIRST_ANEW), .unset, .unset]) rfl (XS.aload X20.here hx rfl (hb hby at_30) rfl rfl (XS.iload X20.here hx rfl (hb hby at_32) rfl k)))) ?_
        obtain ⟨cq21, kq21, q21a, q21b, q21c⟩ := isOf hZ hh20 E_FIRST_ANEW
        obtain ⟨_, _, ⟨T21, L21, k21, n21⟩, -, X21, ⟨Lc21, hQ21, l21, y21, z21⟩, st21⟩ := X20.virtualBack hx (y := mn1) (z := mn1) hown (mvT hZ (ow7 hw)) (mvT hZ (ow8 hw)) (notFace_of_selects (args := #[]) (mvT hZ (ow10 hw))) (mvT hZ (ow10 hw)) (mvT hZ (ow9 hw)) (by decide) (backOf (W := 0) (rm210 l Z a0 hw [] wFIRST_ANEW wFIRST wFIRST_ANEW wOTHER wOTHER_ANEW h0 n0 Z0 S_FIRST S_FIRST_ANEW S_OTHER S_OTHER_ANEW O_FIRST_ANEW) hZ (ow11 hw) (ow5 hw) (by decide) (by decide)) q21a q21c (g := (mkF m 34 #[.val (.int p0), .val (.int p1), .val (.int ((p0 >>> ((1 : Int32) &&& 31)) &&& (1 : Int32))), .val (.int (p0 &&& (1 : Int32))), .val (.int (1 : Int32)), .val (.ref wFIRST_ANEW), .unset, .unset] [(.int (1 : Int32)), (.ref wFIRST_ANEW)])) rfl (by rw [hml]; rfl) (Steps.refl _) (argsL := [(.int (1 : Int32))]) (rest := []) (lenOf pd1 rfl) rfl (by show 2 * 0 + _ ≤ _; exact Nat.le_of_eq rfl) (hb hby at_34) (fun _ _ => ⟨rfl, hh20, (by decide : 0 + 0 ≤ _), (by decide : 0 + 0 ≤ _)⟩)
        dsimp only [Pt.U, Pt.locs, Pt.cells, Pt.slots] at X21 l21 y21 z21 st21 hQ21
        subst l21 y21 z21
        obtain ⟨rfl, N21q, hh21⟩ := hQ21
        have N21 := Fr.app N20 N21q
        refine own_go (T' := T21) (f' := (mkF m 46 #[.val (.int p0), .val (.int p1), .val (.int ((p0 >>> ((1 : Int32) &&& 31)) &&& (1 : Int32))), .val (.int (p0 &&& (1 : Int32))), .val (.int (1 : Int32)), .val (.ref wFIRST_ANEW), .val (.ref wFIRST_ANEW), .unset] [(.int (1 : Int32)), (.int ((p0 >>> ((1 : Int32) &&& 31)) &&& (1 : Int32)))])) (fun _ k => st21.trans (XS.astore X21.here hx rfl (hb hby at_37) rfl rfl (l' := #[.val (.int p0), .val (.int p1), .val (.int ((p0 >>> ((1 : Int32) &&& 31)) &&& (1 : Int32))), .val (.int (p0 &&& (1 : Int32))), .val (.int (1 : Int32)), .val (.ref wFIRST_ANEW), .val (.ref wFIRST_ANEW), .unset]) rfl (XS.iload X21.here hx rfl (hb hby at_39) rfl (XS.ifNo X21.here hx rfl (hb hby at_41) rfl ((if0 _ _).trans (feq (by decide : ¬ ((1 : Int32) = (0 : Int32)))).1) (XS.iloadN X21.here hx rfl (hb hby at_44) rfl (XS.iconst X21.here hx rfl (hb hby at_45) k)))))) ?_
        obtain ⟨_, _, ⟨T22, L22, k22, n22⟩, -, X22, ⟨Lc22, hQ22, l22, y22, z22⟩, st22⟩ := Jvm.LawKit.callS X21 hx (y := mn0) hown (mvT hZ (ow0 hw)) (mvT hZ (ow1 hw)) (mvT hZ (ow2 hw)) (mvT hZ (ow3 hw)) (by decide) (backOf (W := 0) (rm1tf l Z a0 hw [] ((p0 >>> ((1 : Int32) &&& 31)) &&& (1 : Int32)) (1 : Int32) wFIRST wFIRST_ANEW wOTHER wOTHER_ANEW h0 n0 Z0 S_FIRST S_FIRST_ANEW S_OTHER S_OTHER_ANEW hc15 (by decide : ¬ ((1 : Int32) = (0 : Int32)))) hZ (ow3 hw) (ow2 hw) (by decide) (by decide)) (g := (mkF m 46 #[.val (.int p0), .val (.int p1), .val (.int ((p0 >>> ((1 : Int32) &&& 31)) &&& (1 : Int32))), .val (.int (p0 &&& (1 : Int32))), .val (.int (1 : Int32)), .val (.ref wFIRST_ANEW), .val (.ref wFIRST_ANEW), .unset] [(.int (1 : Int32)), (.int ((p0 >>> ((1 : Int32) &&& 31)) &&& (1 : Int32)))])) rfl (by rw [hml]; rfl) (argsL := [(.int ((p0 >>> ((1 : Int32) &&& 31)) &&& (1 : Int32))), (.int (1 : Int32))]) (rest := []) (lenOf pd0 rfl) rfl (by show 2 * 0 + _ ≤ _; exact Nat.le_of_eq rfl) (hb hby at_46) (fun _ _ => ⟨rfl, hh21, (by decide : 0 + 0 ≤ _), (by decide : 0 + 0 ≤ _)⟩)
        dsimp only [Pt.U, Pt.locs, Pt.cells, Pt.slots] at X22 l22 y22 z22 st22 hQ22
        subst l22 y22 z22
        obtain ⟨rfl, N22q, hh22⟩ := hQ22
        have N22 := Fr.app N21 N22q
        refine own_go (T' := T22) (f' := (mkF m 78 #[.val (.int p0), .val (.int p1), .val (.int ((p0 >>> ((1 : Int32) &&& 31)) &&& (1 : Int32))), .val (.int (p0 &&& (1 : Int32))), .val (.int (1 : Int32)), .val (.ref wFIRST_ANEW), .val (.ref wFIRST_ANEW), .val (.ref wFIRST_ANEW)] [])) (fun _ k => st22 _ (XS.astore X22.here hx rfl (hb hby at_49) rfl rfl (l' := #[.val (.int p0), .val (.int p1), .val (.int ((p0 >>> ((1 : Int32) &&& 31)) &&& (1 : Int32))), .val (.int (p0 &&& (1 : Int32))), .val (.int (1 : Int32)), .val (.ref wFIRST_ANEW), .val (.ref wFIRST_ANEW), .val (.ref wFIRST_ANEW)]) rfl (XS.goto X22.here hx rfl (pc0 := 51) (pc' := 71) rfl (hb hby at_51) (by decide) (by decide) (XS.aload X22.here hx rfl (hb hby at_71) rfl rfl (XS.aload X22.here hx rfl (hb hby at_73) rfl rfl (Jvm.RoadKit.acmp (g := (mkF m 75 #[.val (.int p0), .val (.int p1), .val (.int ((p0 >>> ((1 : Int32) &&& 31)) &&& (1 : Int32))), .val (.int (p0 &&& (1 : Int32))), .val (.int (1 : Int32)), .val (.ref wFIRST_ANEW), .val (.ref wFIRST_ANEW), .val (.ref wFIRST_ANEW)] [(.ref wFIRST_ANEW), (.ref wFIRST_ANEW)])) X22 hx rfl rfl rfl (pc0 := 75) (pc' := 78) (same := true) rfl (hb hby at_75) rfl (decide_eq_true rfl) (by decide) (by decide) k)))))) ?_
        refine own_go (T' := T22) (f' := (mkF m 83 #[.val (.int p0), .val (.int p1), .val (.int ((p0 >>> ((1 : Int32) &&& 31)) &&& (1 : Int32))), .val (.int (p0 &&& (1 : Int32))), .val (.int (1 : Int32)), .val (.ref wFIRST_ANEW), .val (.ref wFIRST_ANEW), .val (.ref wFIRST_ANEW)] [(.int (1 : Int32))])) (fun _ k => XS.iconst X22.here hx rfl (hb hby at_78) (XS.goto X22.here hx rfl (pc0 := 79) (pc' := 83) rfl (hb hby at_79) (by decide) (by decide) k)) ?_
        refine own_ret X22 (v := some (.int (1 : Int32))) (fun h => by rw [Bd.returns] at h; cases h) Bd.notSynchronized (fun fs hr => retN X22 hx (t := .boolean) Bd.returns (by simp) (hb hby at_83) hr) ?_ (by decide) (by decide)
        show Q0 Z p0 p1 wFIRST wFIRST_ANEW wOTHER wOTHER_ANEW h0 n0 _ T22.heap _
        exact ⟨rfl, N22⟩
    · by_cases hc23 : (p0 &&& (1 : Int32)) = (0 : Int32)
      · obtain ⟨_, _, ⟨T24, L24, k24, n24⟩, -, X24, ⟨Lc24, hQ24, l24, y24, z24⟩, st24⟩ := Jvm.LawKit.callS X0 hx (y := mn0) hown (mvT hZ (ow0 hw)) (mvT hZ (ow1 hw)) (mvT hZ (ow2 hw)) (mvT hZ (ow3 hw)) (by decide) (backOf (W := 0) (rm1ft l Z a0 hw [] ((p0 >>> ((1 : Int32) &&& 31)) &&& (1 : Int32)) (p0 &&& (1 : Int32)) wFIRST wFIRST_ANEW wOTHER wOTHER_ANEW h0 n0 Z0 S_FIRST S_FIRST_ANEW S_OTHER S_OTHER_ANEW hc15 hc23) hZ (ow3 hw) (ow2 hw) (by decide) (by decide)) (g := (mkF m 25 #[.val (.int p0), .val (.int p1), .val (.int ((p0 >>> ((1 : Int32) &&& 31)) &&& (1 : Int32))), .val (.int (p0 &&& (1 : Int32))), .val (.int (1 : Int32)), .unset, .unset, .unset] [(.int (p0 &&& (1 : Int32))), (.int ((p0 >>> ((1 : Int32) &&& 31)) &&& (1 : Int32)))])) rfl (by rw [hml]; rfl) (argsL := [(.int ((p0 >>> ((1 : Int32) &&& 31)) &&& (1 : Int32))), (.int (p0 &&& (1 : Int32)))]) (rest := []) (lenOf pd0 rfl) rfl (by show 2 * 0 + _ ≤ _; exact Nat.le_of_eq rfl) (hb hby at_25) (fun _ _ => ⟨rfl, e0, (by decide : 0 + 0 ≤ _), (by decide : 0 + 0 ≤ _)⟩)
        dsimp only [Pt.U, Pt.locs, Pt.cells, Pt.slots] at X24 l24 y24 z24 st24 hQ24
        subst l24 y24 z24
        obtain ⟨rfl, N24q, hh24⟩ := hQ24
        have N24 := Fr.app N0 N24q
        refine own_go (T' := T24) (f' := (mkF m 34 #[.val (.int p0), .val (.int p1), .val (.int ((p0 >>> ((1 : Int32) &&& 31)) &&& (1 : Int32))), .val (.int (p0 &&& (1 : Int32))), .val (.int (1 : Int32)), .val (.ref wOTHER), .unset, .unset] [(.int (1 : Int32)), (.ref wOTHER)])) (fun _ k => st24 _ (XS.astore X24.here hx rfl (hb hby at_28) rfl rfl (l' := #[.val (.int p0), .val (.int p1), .val (.int ((p0 >>> ((1 : Int32) &&& 31)) &&& (1 : Int32))), .val (.int (p0 &&& (1 : Int32))), .val (.int (1 : Int32)), .val (.ref wOTHER), .unset, .unset]) rfl (XS.aload X24.here hx rfl (hb hby at_30) rfl rfl (XS.iload X24.here hx rfl (hb hby at_32) rfl k)))) ?_
        obtain ⟨cq25, kq25, q25a, q25b, q25c⟩ := isOf hZ hh24 E_OTHER
        obtain ⟨_, _, ⟨T25, L25, k25, n25⟩, -, X25, ⟨Lc25, hQ25, l25, y25, z25⟩, st25⟩ := X24.virtualBack hx (y := mn1) (z := mn1) hown (mvT hZ (ow7 hw)) (mvT hZ (ow8 hw)) (notFace_of_selects (args := #[]) (mvT hZ (ow10 hw))) (mvT hZ (ow10 hw)) (mvT hZ (ow9 hw)) (by decide) (backOf (W := 0) (rm211 l Z a0 hw [] wOTHER wFIRST wFIRST_ANEW wOTHER wOTHER_ANEW h0 n0 Z0 S_FIRST S_FIRST_ANEW S_OTHER S_OTHER_ANEW O_OTHER) hZ (ow11 hw) (ow5 hw) (by decide) (by decide)) q25a q25c (g := (mkF m 34 #[.val (.int p0), .val (.int p1), .val (.int ((p0 >>> ((1 : Int32) &&& 31)) &&& (1 : Int32))), .val (.int (p0 &&& (1 : Int32))), .val (.int (1 : Int32)), .val (.ref wOTHER), .unset, .unset] [(.int (1 : Int32)), (.ref wOTHER)])) rfl (by rw [hml]; rfl) (Steps.refl _) (argsL := [(.int (1 : Int32))]) (rest := []) (lenOf pd1 rfl) rfl (by show 2 * 0 + _ ≤ _; exact Nat.le_of_eq rfl) (hb hby at_34) (fun _ _ => ⟨rfl, hh24, (by decide : 0 + 0 ≤ _), (by decide : 0 + 0 ≤ _)⟩)
        dsimp only [Pt.U, Pt.locs, Pt.cells, Pt.slots] at X25 l25 y25 z25 st25 hQ25
        subst l25 y25 z25
        obtain ⟨rfl, N25q, hh25⟩ := hQ25
        have N25 := Fr.app N24 N25q
        refine own_go (T' := T25) (f' := (mkF m 46 #[.val (.int p0), .val (.int p1), .val (.int ((p0 >>> ((1 : Int32) &&& 31)) &&& (1 : Int32))), .val (.int (p0 &&& (1 : Int32))), .val (.int (1 : Int32)), .val (.ref wOTHER), .val (.ref wOTHER_ANEW), .unset] [(.int (1 : Int32)), (.int ((p0 >>> ((1 : Int32) &&& 31)) &&& (1 : Int32)))])) (fun _ k => st25.trans (XS.astore X25.here hx rfl (hb hby at_37) rfl rfl (l' := #[.val (.int p0), .val (.int p1), .val (.int ((p0 >>> ((1 : Int32) &&& 31)) &&& (1 : Int32))), .val (.int (p0 &&& (1 : Int32))), .val (.int (1 : Int32)), .val (.ref wOTHER), .val (.ref wOTHER_ANEW), .unset]) rfl (XS.iload X25.here hx rfl (hb hby at_39) rfl (XS.ifNo X25.here hx rfl (hb hby at_41) rfl ((if0 _ _).trans (feq (by decide : ¬ ((1 : Int32) = (0 : Int32)))).1) (XS.iloadN X25.here hx rfl (hb hby at_44) rfl (XS.iconst X25.here hx rfl (hb hby at_45) k)))))) ?_
        obtain ⟨_, _, ⟨T26, L26, k26, n26⟩, -, X26, ⟨Lc26, hQ26, l26, y26, z26⟩, st26⟩ := Jvm.LawKit.callS X25 hx (y := mn0) hown (mvT hZ (ow0 hw)) (mvT hZ (ow1 hw)) (mvT hZ (ow2 hw)) (mvT hZ (ow3 hw)) (by decide) (backOf (W := 0) (rm1ff l Z a0 hw [] ((p0 >>> ((1 : Int32) &&& 31)) &&& (1 : Int32)) (1 : Int32) wFIRST wFIRST_ANEW wOTHER wOTHER_ANEW h0 n0 Z0 S_FIRST S_FIRST_ANEW S_OTHER S_OTHER_ANEW hc15 (by decide : ¬ ((1 : Int32) = (0 : Int32)))) hZ (ow3 hw) (ow2 hw) (by decide) (by decide)) (g := (mkF m 46 #[.val (.int p0), .val (.int p1), .val (.int ((p0 >>> ((1 : Int32) &&& 31)) &&& (1 : Int32))), .val (.int (p0 &&& (1 : Int32))), .val (.int (1 : Int32)), .val (.ref wOTHER), .val (.ref wOTHER_ANEW), .unset] [(.int (1 : Int32)), (.int ((p0 >>> ((1 : Int32) &&& 31)) &&& (1 : Int32)))])) rfl (by rw [hml]; rfl) (argsL := [(.int ((p0 >>> ((1 : Int32) &&& 31)) &&& (1 : Int32))), (.int (1 : Int32))]) (rest := []) (lenOf pd0 rfl) rfl (by show 2 * 0 + _ ≤ _; exact Nat.le_of_eq rfl) (hb hby at_46) (fun _ _ => ⟨rfl, hh25, (by decide : 0 + 0 ≤ _), (by decide : 0 + 0 ≤ _)⟩)
        dsimp only [Pt.U, Pt.locs, Pt.cells, Pt.slots] at X26 l26 y26 z26 st26 hQ26
        subst l26 y26 z26
        obtain ⟨rfl, N26q, hh26⟩ := hQ26
        have N26 := Fr.app N25 N26q
        refine own_go (T' := T26) (f' := (mkF m 78 #[.val (.int p0), .val (.int p1), .val (.int ((p0 >>> ((1 : Int32) &&& 31)) &&& (1 : Int32))), .val (.int (p0 &&& (1 : Int32))), .val (.int (1 : Int32)), .val (.ref wOTHER), .val (.ref wOTHER_ANEW), .val (.ref wOTHER_ANEW)] [])) (fun _ k => st26 _ (XS.astore X26.here hx rfl (hb hby at_49) rfl rfl (l' := #[.val (.int p0), .val (.int p1), .val (.int ((p0 >>> ((1 : Int32) &&& 31)) &&& (1 : Int32))), .val (.int (p0 &&& (1 : Int32))), .val (.int (1 : Int32)), .val (.ref wOTHER), .val (.ref wOTHER_ANEW), .val (.ref wOTHER_ANEW)]) rfl (XS.goto X26.here hx rfl (pc0 := 51) (pc' := 71) rfl (hb hby at_51) (by decide) (by decide) (XS.aload X26.here hx rfl (hb hby at_71) rfl rfl (XS.aload X26.here hx rfl (hb hby at_73) rfl rfl (Jvm.RoadKit.acmp (g := (mkF m 75 #[.val (.int p0), .val (.int p1), .val (.int ((p0 >>> ((1 : Int32) &&& 31)) &&& (1 : Int32))), .val (.int (p0 &&& (1 : Int32))), .val (.int (1 : Int32)), .val (.ref wOTHER), .val (.ref wOTHER_ANEW), .val (.ref wOTHER_ANEW)] [(.ref wOTHER_ANEW), (.ref wOTHER_ANEW)])) X26 hx rfl rfl rfl (pc0 := 75) (pc' := 78) (same := true) rfl (hb hby at_75) rfl (decide_eq_true rfl) (by decide) (by decide) k)))))) ?_
        refine own_go (T' := T26) (f' := (mkF m 83 #[.val (.int p0), .val (.int p1), .val (.int ((p0 >>> ((1 : Int32) &&& 31)) &&& (1 : Int32))), .val (.int (p0 &&& (1 : Int32))), .val (.int (1 : Int32)), .val (.ref wOTHER), .val (.ref wOTHER_ANEW), .val (.ref wOTHER_ANEW)] [(.int (1 : Int32))])) (fun _ k => XS.iconst X26.here hx rfl (hb hby at_78) (XS.goto X26.here hx rfl (pc0 := 79) (pc' := 83) rfl (hb hby at_79) (by decide) (by decide) k)) ?_
        refine own_ret X26 (v := some (.int (1 : Int32))) (fun h => by rw [Bd.returns] at h; cases h) Bd.notSynchronized (fun fs hr => retN X26 hx (t := .boolean) Bd.returns (by simp) (hb hby at_83) hr) ?_ (by decide) (by decide)
        show Q0 Z p0 p1 wFIRST wFIRST_ANEW wOTHER wOTHER_ANEW h0 n0 _ T26.heap _
        exact ⟨rfl, N26⟩
      · obtain ⟨_, _, ⟨T27, L27, k27, n27⟩, -, X27, ⟨Lc27, hQ27, l27, y27, z27⟩, st27⟩ := Jvm.LawKit.callS X0 hx (y := mn0) hown (mvT hZ (ow0 hw)) (mvT hZ (ow1 hw)) (mvT hZ (ow2 hw)) (mvT hZ (ow3 hw)) (by decide) (backOf (W := 0) (rm1ff l Z a0 hw [] ((p0 >>> ((1 : Int32) &&& 31)) &&& (1 : Int32)) (p0 &&& (1 : Int32)) wFIRST wFIRST_ANEW wOTHER wOTHER_ANEW h0 n0 Z0 S_FIRST S_FIRST_ANEW S_OTHER S_OTHER_ANEW hc15 hc23) hZ (ow3 hw) (ow2 hw) (by decide) (by decide)) (g := (mkF m 25 #[.val (.int p0), .val (.int p1), .val (.int ((p0 >>> ((1 : Int32) &&& 31)) &&& (1 : Int32))), .val (.int (p0 &&& (1 : Int32))), .val (.int (1 : Int32)), .unset, .unset, .unset] [(.int (p0 &&& (1 : Int32))), (.int ((p0 >>> ((1 : Int32) &&& 31)) &&& (1 : Int32)))])) rfl (by rw [hml]; rfl) (argsL := [(.int ((p0 >>> ((1 : Int32) &&& 31)) &&& (1 : Int32))), (.int (p0 &&& (1 : Int32)))]) (rest := []) (lenOf pd0 rfl) rfl (by show 2 * 0 + _ ≤ _; exact Nat.le_of_eq rfl) (hb hby at_25) (fun _ _ => ⟨rfl, e0, (by decide : 0 + 0 ≤ _), (by decide : 0 + 0 ≤ _)⟩)
        dsimp only [Pt.U, Pt.locs, Pt.cells, Pt.slots] at X27 l27 y27 z27 st27 hQ27
        subst l27 y27 z27
        obtain ⟨rfl, N27q, hh27⟩ := hQ27
        have N27 := Fr.app N0 N27q
        refine own_go (T' := T27) (f' := (mkF m 34 #[.val (.int p0), .val (.int p1), .val (.int ((p0 >>> ((1 : Int32) &&& 31)) &&& (1 : Int32))), .val (.int (p0 &&& (1 : Int32))), .val (.int (1 : Int32)), .val (.ref wOTHER_ANEW), .unset, .unset] [(.int (1 : Int32)), (.ref wOTHER_ANEW)])) (fun _ k => st27 _ (XS.astore X27.here hx rfl (hb hby at_28) rfl rfl (l' := #[.val (.int p0), .val (.int p1), .val (.int ((p0 >>> ((1 : Int32) &&& 31)) &&& (1 : Int32))), .val (.int (p0 &&& (1 : Int32))), .val (.int (1 : Int32)), .val (.ref wOTHER_ANEW), .unset, .unset]) rfl (XS.aload X27.here hx rfl (hb hby at_30) rfl rfl (XS.iload X27.here hx rfl (hb hby at_32) rfl k)))) ?_
        obtain ⟨cq28, kq28, q28a, q28b, q28c⟩ := isOf hZ hh27 E_OTHER_ANEW
        obtain ⟨_, _, ⟨T28, L28, k28, n28⟩, -, X28, ⟨Lc28, hQ28, l28, y28, z28⟩, st28⟩ := X27.virtualBack hx (y := mn1) (z := mn1) hown (mvT hZ (ow7 hw)) (mvT hZ (ow8 hw)) (notFace_of_selects (args := #[]) (mvT hZ (ow10 hw))) (mvT hZ (ow10 hw)) (mvT hZ (ow9 hw)) (by decide) (backOf (W := 0) (rm211 l Z a0 hw [] wOTHER_ANEW wFIRST wFIRST_ANEW wOTHER wOTHER_ANEW h0 n0 Z0 S_FIRST S_FIRST_ANEW S_OTHER S_OTHER_ANEW O_OTHER_ANEW) hZ (ow11 hw) (ow5 hw) (by decide) (by decide)) q28a q28c (g := (mkF m 34 #[.val (.int p0), .val (.int p1), .val (.int ((p0 >>> ((1 : Int32) &&& 31)) &&& (1 : Int32))), .val (.int (p0 &&& (1 : Int32))), .val (.int (1 : Int32)), .val (.ref wOTHER_ANEW), .unset, .unset] [(.int (1 : Int32)), (.ref wOTHER_ANEW)])) rfl (by rw [hml]; rfl) (Steps.refl _) (argsL := [(.int (1 : Int32))]) (rest := []) (lenOf pd1 rfl) rfl (by show 2 * 0 + _ ≤ _; exact Nat.le_of_eq rfl) (hb hby at_34) (fun _ _ => ⟨rfl, hh27, (by decide : 0 + 0 ≤ _), (by decide : 0 + 0 ≤ _)⟩)
        dsimp only [Pt.U, Pt.locs, Pt.cells, Pt.slots] at X28 l28 y28 z28 st28 hQ28
        subst l28 y28 z28
        obtain ⟨rfl, N28q, hh28⟩ := hQ28
        have N28 := Fr.app N27 N28q
        refine own_go (T' := T28) (f' := (mkF m 46 #[.val (.int p0), .val (.int p1), .val (.int ((p0 >>> ((1 : Int32) &&& 31)) &&& (1 : Int32))), .val (.int (p0 &&& (1 : Int32))), .val (.int (1 : Int32)), .val (.ref wOTHER_ANEW), .val (.ref wOTHER_ANEW), .unset] [(.int (1 : Int32)), (.int ((p0 >>> ((1 : Int32) &&& 31)) &&& (1 : Int32)))])) (fun _ k => st28.trans (XS.astore X28.here hx rfl (hb hby at_37) rfl rfl (l' := #[.val (.int p0), .val (.int p1), .val (.int ((p0 >>> ((1 : Int32) &&& 31)) &&& (1 : Int32))), .val (.int (p0 &&& (1 : Int32))), .val (.int (1 : Int32)), .val (.ref wOTHER_ANEW), .val (.ref wOTHER_ANEW), .unset]) rfl (XS.iload X28.here hx rfl (hb hby at_39) rfl (XS.ifNo X28.here hx rfl (hb hby at_41) rfl ((if0 _ _).trans (feq (by decide : ¬ ((1 : Int32) = (0 : Int32)))).1) (XS.iloadN X28.here hx rfl (hb hby at_44) rfl (XS.iconst X28.here hx rfl (hb hby at_45) k)))))) ?_
        obtain ⟨_, _, ⟨T29, L29, k29, n29⟩, -, X29, ⟨Lc29, hQ29, l29, y29, z29⟩, st29⟩ := Jvm.LawKit.callS X28 hx (y := mn0) hown (mvT hZ (ow0 hw)) (mvT hZ (ow1 hw)) (mvT hZ (ow2 hw)) (mvT hZ (ow3 hw)) (by decide) (backOf (W := 0) (rm1ff l Z a0 hw [] ((p0 >>> ((1 : Int32) &&& 31)) &&& (1 : Int32)) (1 : Int32) wFIRST wFIRST_ANEW wOTHER wOTHER_ANEW h0 n0 Z0 S_FIRST S_FIRST_ANEW S_OTHER S_OTHER_ANEW hc15 (by decide : ¬ ((1 : Int32) = (0 : Int32)))) hZ (ow3 hw) (ow2 hw) (by decide) (by decide)) (g := (mkF m 46 #[.val (.int p0), .val (.int p1), .val (.int ((p0 >>> ((1 : Int32) &&& 31)) &&& (1 : Int32))), .val (.int (p0 &&& (1 : Int32))), .val (.int (1 : Int32)), .val (.ref wOTHER_ANEW), .val (.ref wOTHER_ANEW), .unset] [(.int (1 : Int32)), (.int ((p0 >>> ((1 : Int32) &&& 31)) &&& (1 : Int32)))])) rfl (by rw [hml]; rfl) (argsL := [(.int ((p0 >>> ((1 : Int32) &&& 31)) &&& (1 : Int32))), (.int (1 : Int32))]) (rest := []) (lenOf pd0 rfl) rfl (by show 2 * 0 + _ ≤ _; exact Nat.le_of_eq rfl) (hb hby at_46) (fun _ _ => ⟨rfl, hh28, (by decide : 0 + 0 ≤ _), (by decide : 0 + 0 ≤ _)⟩)
        dsimp only [Pt.U, Pt.locs, Pt.cells, Pt.slots] at X29 l29 y29 z29 st29 hQ29
        subst l29 y29 z29
        obtain ⟨rfl, N29q, hh29⟩ := hQ29
        have N29 := Fr.app N28 N29q
        refine own_go (T' := T29) (f' := (mkF m 78 #[.val (.int p0), .val (.int p1), .val (.int ((p0 >>> ((1 : Int32) &&& 31)) &&& (1 : Int32))), .val (.int (p0 &&& (1 : Int32))), .val (.int (1 : Int32)), .val (.ref wOTHER_ANEW), .val (.ref wOTHER_ANEW), .val (.ref wOTHER_ANEW)] [])) (fun _ k => st29 _ (XS.astore X29.here hx rfl (hb hby at_49) rfl rfl (l' := #[.val (.int p0), .val (.int p1), .val (.int ((p0 >>> ((1 : Int32) &&& 31)) &&& (1 : Int32))), .val (.int (p0 &&& (1 : Int32))), .val (.int (1 : Int32)), .val (.ref wOTHER_ANEW), .val (.ref wOTHER_ANEW), .val (.ref wOTHER_ANEW)]) rfl (XS.goto X29.here hx rfl (pc0 := 51) (pc' := 71) rfl (hb hby at_51) (by decide) (by decide) (XS.aload X29.here hx rfl (hb hby at_71) rfl rfl (XS.aload X29.here hx rfl (hb hby at_73) rfl rfl (Jvm.RoadKit.acmp (g := (mkF m 75 #[.val (.int p0), .val (.int p1), .val (.int ((p0 >>> ((1 : Int32) &&& 31)) &&& (1 : Int32))), .val (.int (p0 &&& (1 : Int32))), .val (.int (1 : Int32)), .val (.ref wOTHER_ANEW), .val (.ref wOTHER_ANEW), .val (.ref wOTHER_ANEW)] [(.ref wOTHER_ANEW), (.ref wOTHER_ANEW)])) X29 hx rfl rfl rfl (pc0 := 75) (pc' := 78) (same := true) rfl (hb hby at_75) rfl (decide_eq_true rfl) (by decide) (by decide) k)))))) ?_
        refine own_go (T' := T29) (f' := (mkF m 83 #[.val (.int p0), .val (.int p1), .val (.int ((p0 >>> ((1 : Int32) &&& 31)) &&& (1 : Int32))), .val (.int (p0 &&& (1 : Int32))), .val (.int (1 : Int32)), .val (.ref wOTHER_ANEW), .val (.ref wOTHER_ANEW), .val (.ref wOTHER_ANEW)] [(.int (1 : Int32))])) (fun _ k => XS.iconst X29.here hx rfl (hb hby at_78) (XS.goto X29.here hx rfl (pc0 := 79) (pc' := 83) rfl (hb hby at_79) (by decide) (by decide) k)) ?_
        refine own_ret X29 (v := some (.int (1 : Int32))) (fun h => by rw [Bd.returns] at h; cases h) Bd.notSynchronized (fun fs hr => retN X29 hx (t := .boolean) Bd.returns (by simp) (hb hby at_83) hr) ?_ (by decide) (by decide)
        show Q0 Z p0 p1 wFIRST wFIRST_ANEW wOTHER wOTHER_ANEW h0 n0 _ T29.heap _
        exact ⟨rfl, N29⟩
set_option maxRecDepth 65536 in
set_option maxHeartbeats 40000000 in
theorem comes_1 {Post : Tables → Env → Array Value → State → Outcome → State → Prop} (hpost : ∀ tb e args s v u, (limb_1_1.after args s (.returned v) u = true ∧ limb_1_2.after args s (.returned v) u = true ∧ True) → FrameEnd s (.returned v) u (Jvm.fieldLocs frame_1_writes args s ++ Jvm.arrayLocs frame_1_arrays args s ++ Jvm.staticLocs frame_1_statics s) 0 0 → Post tb e args s (.returned v) u) :
    ArmFor flags0 classFile x code maxLocals ret World_1 tables_1 room_1 Calls_1 rest_1 Pre_1 Post := by
  intro l hfl _ _ p e ha hc hk s m args below hf hA hF happ hP
  obtain ⟨hcalls, hrest, hpre⟩ := hP
  obtain ⟨-, -, -, hnamed, -, -, -, hat⟩ := (Spec.applies_iff hf).mp happ
  obtain ⟨hg, hn⟩ := and_e (Cond.before_iff.mp (show (Jvm.Cond.and given_1 narrow_1).before args s = true from hpre))
  obtain ⟨hg_2, hg_3⟩ := and_e hg
  obtain ⟨hg_4, hg_5⟩ := and_e hg_3
  obtain ⟨w0, w1, rfl⟩ : ∃ w0 w1 : Value, args = #[w0, w1] := by
    have hs : args.size = 2 := by simpa [Cond.value, given_1] using hg_2
    obtain ⟨L⟩ := args
    match L, hs with
    | [w0, w1], _ => exact ⟨w0, w1, rfl⟩
  have hw := fun d (hd : d ∈ tables_1) => atoms_spec (ws := Jvm.Cond.code x code maxLocals ret :: tables_1) hat d (List.mem_cons_of_mem _ hd)
  have hfit : Fit s := fun {y c} hc i hi => by
    obtain ⟨ha, rfl⟩ := Array.getElem?_eq_some_iff.mp hc
    have q := List.all_eq_true.mp ((Array.all_eq_true_iff_forall_mem.mp hF) _ (Array.getElem_mem ha)) i (List.mem_range.mpr hi)
    simpa [Array.getElem?_eq_getElem hi] using q
  obtain ⟨i0, ei0⟩ := is_v hg_4
  obtain rfl : w0 = (.int i0) := Option.some.inj ei0
  obtain ⟨i1, ei1⟩ := is_v hg_5
  obtain rfl : w1 = (.int i1) := Option.some.inj ei1
  obtain ⟨hn_2, hn_3⟩ := and_e hn
  obtain ⟨hn_4, hn_5⟩ := and_e hn_3
  obtain ⟨hn_6, hn_7⟩ := and_e hn_5
  obtain ⟨hn_8, hn_9⟩ := and_e hn_7
  obtain ⟨hn_10, hn_11⟩ := and_e hn_9
  obtain ⟨hn_12, hn_13⟩ := and_e hn_11
  obtain ⟨hn_14, hn_15⟩ := and_e hn_13
  obtain ⟨w_FIRST, ev_FIRST⟩ := exa_v hn_2
  have E_FIRST : Exa s s.heap w_FIRST "com/example/ushr/ushr/proxy/Attempt" := Exa.start ev_FIRST hn_2
  have S_FIRST : Sta s s.heap "com/example/ushr/ushr/proxy/Attempt" "FIRST" "Lcom/example/ushr/ushr/proxy/Attempt;" (.ref w_FIRST) := Sta.start ev_FIRST (Or.inr ⟨(ow5 hw), (ow6 hw)⟩)
  obtain ⟨w_FIRST_ANEW, ev_FIRST_ANEW⟩ := exa_v hn_6
  have E_FIRST_ANEW : Exa s s.heap w_FIRST_ANEW "com/example/ushr/ushr/proxy/Attempt" := Exa.start ev_FIRST_ANEW hn_6
  have S_FIRST_ANEW : Sta s s.heap "com/example/ushr/ushr/proxy/Attempt" "FIRST_ANEW" "Lcom/example/ushr/ushr/proxy/Attempt;" (.ref w_FIRST_ANEW) := Sta.start ev_FIRST_ANEW (Or.inr ⟨(ow5 hw), (ow15 hw)⟩)
  obtain ⟨w_OTHER, ev_OTHER⟩ := exa_v hn_8
  have E_OTHER : Exa s s.heap w_OTHER "com/example/ushr/ushr/proxy/Attempt" := Exa.start ev_OTHER hn_8
  have S_OTHER : Sta s s.heap "com/example/ushr/ushr/proxy/Attempt" "OTHER" "Lcom/example/ushr/ushr/proxy/Attempt;" (.ref w_OTHER) := Sta.start ev_OTHER (Or.inr ⟨(ow5 hw), (ow18 hw)⟩)
  obtain ⟨w_OTHER_ANEW, ev_OTHER_ANEW⟩ := exa_v hn_12
  have E_OTHER_ANEW : Exa s s.heap w_OTHER_ANEW "com/example/ushr/ushr/proxy/Attempt" := Exa.start ev_OTHER_ANEW hn_12
  have S_OTHER_ANEW : Sta s s.heap "com/example/ushr/ushr/proxy/Attempt" "OTHER_ANEW" "Lcom/example/ushr/ushr/proxy/Attempt;" (.ref w_OTHER_ANEW) := Sta.start ev_OTHER_ANEW (Or.inr ⟨(ow5 hw), (ow20 hw)⟩)
  have O_FIRST : Fld s s.heap w_FIRST "com/example/ushr/ushr/proxy/Attempt" "otherServer" "Z" (.int (0 : Int32)) := own_fld_of ev_FIRST hn_4
  have O_OTHER : Fld s s.heap w_OTHER "com/example/ushr/ushr/proxy/Attempt" "otherServer" "Z" (.int (1 : Int32)) := own_fld_of ev_OTHER hn_10
  have O_FIRST_ANEW : Fld s s.heap w_FIRST_ANEW "com/example/ushr/ushr/proxy/Attempt" "otherServer" "Z" (.int (0 : Int32)) := own_fld_of ev_FIRST_ANEW hn_14
  have O_OTHER_ANEW : Fld s s.heap w_OTHER_ANEW "com/example/ushr/ushr/proxy/Attempt" "otherServer" "Z" (.int (1 : Int32)) := own_fld_of ev_OTHER_ANEW hn_15
  obtain ⟨n, o, h1, h2, h3, _, L, rfl, ⟨rfl, N⟩, hq⟩ := rm0 l s _ hw tables_1 i0 i1 w_FIRST w_FIRST_ANEW w_OTHER w_OTHER_ANEW s.heap s.heap.size (Nat.le_refl _) S_FIRST S_FIRST_ANEW S_OTHER S_OTHER_ANEW E_FIRST E_FIRST_ANEW E_OTHER E_OTHER_ANEW O_FIRST O_FIRST_ANEW O_OTHER O_OTHER_ANEW p e ha hc hk s m _ below hf ((Spec.applies_iff_loose hf).mp happ).1 ⟨rfl, State.Warmed39.refl s, rfl⟩ trivial
  refine ⟨n, _, h1, h2, h3, hpost _ _ _ _ _ _ ⟨Cond.after_iff.mpr rfl, Cond.after_iff.mpr (eq_i res_at (Term.int_eval (1)) rfl), trivial⟩ ⟨hq.1, hq.2.1, (hq.2.2.sift fun y hy => Or.inr (N y hy)).mono (by decide) (by decide)⟩⟩
theorem main_1_1 : Claimed_1_1 := comes_1 fun _ _ _ _ _ _ h hF => ⟨h.1, hF⟩
theorem main_1_2 : Claimed_1_2 := comes_1 fun _ _ _ _ _ _ h hF => ⟨h.2.1, hF⟩
end Jvm.Pilot.@@N@@
namespace Jvm.Pilot.@@N@@
open Jvm Jvm.ClassFile Sem Op Lib Jvm.Free Jvm.Stand Jvm.Pilot.@@N@@.Jvm.D
/-! MADE BY PROGRAM (witnessworld.py) out of the Statement's table words and the real class files: 12 classes; the members and pool entries that the words name. The judged class is class 1, her method 2. -/
namespace start1
open Jvm.ClassFile
def u (s : String) : CpInfo := .utf8 (stringToUtf16 s)
/-- a pool by its gaps: so many unusable entries, then the entry; so many at the end -/
def gap : Nat → List CpInfo → List CpInfo
  | 0, r => r
  | n + 1, r => .unusable :: gap n r
def poolList (es : List (Nat × CpInfo)) (last : Nat) : List CpInfo := es.foldr (fun e r => gap e.1 (e.2 :: r)) (gap last [])
def pool (es : List (Nat × CpInfo)) (last : Nat) : Array CpInfo := ⟨poolList es last⟩
def fileOf (pool : Array CpInfo) (this : Nat) (attrs : Array Attribute := #[]) (ms : Array MethodInfo := #[]) (fl : Nat := 33) (sup : Nat := 0) (ifs : Array Nat := #[]) (fds : Array FieldInfo := #[]) : ClassFile where
  minorVersion := 0
  majorVersion := 65
  constantPool := pool
  accessFlags := fl
  thisClass := this
  superClass := sup
  interfaces := ifs
  fields := fds
  methods := ms
  attributes := attrs
def plain (name : String) (sup : Option ClassId) : Class where
  name := name
  kind := .ordinary
  loader := none
  accessFlags := 33
  super := sup
  interfaces := #[]
  cf := none
  fields := #[]
  methods := #[]
  instanceTypes := #[]
  staticTypes := #[]
  resolved := #[]
  callSites := []
  init := .initialized
  statics := none
  mirror := none

def pool0 : Array CpInfo := pool [(5, u "<init>"), (0, u "()V"), (1, .class_ 10), (1, u "java/lang/Object")] 113

def k0m0 : Method := { name := "<init>", desc := "()V", sig := { parameters := [], returnType := none }, accessFlags := 1, code := none }
/-- java/lang/Object -/
def k0 : Class := { plain "java/lang/Object" none with
  accessFlags := 33
  interfaces := #[]
  cf := some (fileOf pool0 8 #[] #[{ accessFlags := 1, nameIndex := 5, descriptorIndex := 6, attributes := #[] }] 33 0 #[] #[])
  fields := #[]
  methods := #[k0m0]
  instanceTypes := #[]
  staticTypes := #[]
  resolved := Array.replicate 124 none
  statics := none }

def pool1 : Array CpInfo := pool [(2, .class_ 4), (1, u "java/lang/Object"), (0, u "<init>"), (0, u "()V"), (0, .fieldref 8 9), (0, .class_ 10), (0, .nameAndType 11 12), (0, u "com/example/ushr/ushr/proxy/Attempt"), (0, u "FIRST"), (0, u "Lcom/example/ushr/ushr/proxy/Attempt;"), (0, .fieldref 8 14), (0, .nameAndType 15 12), (0, u "FIRST_ANEW"), (0, .fieldref 8 17), (0, .nameAndType 18 12), (0, u "OTHER"), (0, .fieldref 8 20), (0, .nameAndType 21 12), (0, u "OTHER_ANEW"), (0, .methodref 23 24), (0, .class_ 25), (0, .nameAndType 26 27), (0, u "com/example/ushr/ushr/proxy/AttemptNextPinLaw"), (0, u "of"), (0, u "(II)Lcom/example/ushr/ushr/proxy/Attempt;"), (0, .methodref 8 29), (0, .nameAndType 30 31), (0, u "next"), (0, u "(Z)Lcom/example/ushr/ushr/proxy/Attempt;"), (3, u "law"), (0, u "(II)Z")] 2

def k1m0 : Method := { name := "<init>", desc := "()V", sig := { parameters := [], returnType := none }, accessFlags := 1, code := none }
def k1c1 : Code := { maxStack := 1, maxLocals := 2, code := method_2_code, exceptionTable := #[], attributes := #[] }
def k1m1 : Method := { name := "of", desc := "(II)Lcom/example/ushr/ushr/proxy/Attempt;", sig := { parameters := [.int, .int], returnType := some (.object "com/example/ushr/ushr/proxy/Attempt") }, accessFlags := 10, code := some k1c1 }
def k1c2 : Code := { maxStack := 2, maxLocals := 8, code := code, exceptionTable := #[], attributes := #[] }
def k1m2 : Method := { name := "law", desc := "(II)Z", sig := { parameters := [.int, .int], returnType := some .boolean }, accessFlags := 9, code := some k1c2 }
/-- com/example/ushr/ushr/proxy/AttemptNextPinLaw -/
def k1 : Class := { plain "com/example/ushr/ushr/proxy/AttemptNextPinLaw" (some 0) with
  accessFlags := 49
  interfaces := #[]
  cf := some (fileOf pool1 23 #[] #[{ accessFlags := 1, nameIndex := 5, descriptorIndex := 6, attributes := #[] }, { accessFlags := 10, nameIndex := 26, descriptorIndex := 27, attributes := #[] }, { accessFlags := 9, nameIndex := 35, descriptorIndex := 36, attributes := #[] }] 49 2 #[] #[])
  fields := #[]
  methods := #[k1m0, k1m1, k1m2]
  instanceTypes := #[]
  staticTypes := #[]
  resolved := Array.replicate 39 none
  statics := none }

def pool2 : Array CpInfo := pool [(1, .class_ 2), (0, u "java/lang/constant/Constable"), (0, .class_ 4), (0, u "java/lang/Object")] 6

/-- java/lang/constant/Constable -/
def k2 : Class := { plain "java/lang/constant/Constable" (some 0) with
  accessFlags := 1537
  interfaces := #[]
  cf := some (fileOf pool2 1 #[] #[] 1537 3 #[] #[])
  fields := #[]
  methods := #[]
  instanceTypes := #[]
  staticTypes := #[]
  resolved := Array.replicate 11 none
  statics := none }

def pool3 : Array CpInfo := pool [(1, .class_ 2), (0, u "java/lang/Comparable"), (0, .class_ 4), (0, u "java/lang/Object")] 7

/-- java/lang/Comparable -/
def k3 : Class := { plain "java/lang/Comparable" (some 0) with
  accessFlags := 1537
  interfaces := #[]
  cf := some (fileOf pool3 1 #[] #[] 1537 3 #[] #[])
  fields := #[]
  methods := #[]
  instanceTypes := #[]
  staticTypes := #[]
  resolved := Array.replicate 12 none
  statics := none }

def pool4 : Array CpInfo := pool [(1, .class_ 2), (0, u "java/io/Serializable"), (0, .class_ 4), (0, u "java/lang/Object")] 2

/-- java/io/Serializable -/
def k4 : Class := { plain "java/io/Serializable" (some 0) with
  accessFlags := 1537
  interfaces := #[]
  cf := some (fileOf pool4 1 #[] #[] 1537 3 #[] #[])
  fields := #[]
  methods := #[]
  instanceTypes := #[]
  staticTypes := #[]
  resolved := Array.replicate 7 none
  statics := none }

def pool5 : Array CpInfo := pool [(2, .class_ 4), (1, u "java/lang/Enum"), (0, u "name"), (0, u "Ljava/lang/String;"), (2, u "ordinal"), (0, u "I"), (1, .class_ 14), (1, u "java/lang/Object"), (4, u "hash"), (86, .class_ 108), (1, u "java/lang/Enum$EnumDesc"), (2, .class_ 112), (0, u "java/lang/constant/Constable"), (0, .class_ 114), (0, u "java/lang/Comparable"), (0, .class_ 116), (0, u "java/io/Serializable")] 87

/-- java/lang/Enum -/
def k5 : Class := { plain "java/lang/Enum" (some 0) with
  accessFlags := 1057
  interfaces := #[2, 3, 4]
  cf := some (fileOf pool5 2 #[.nestMembers #[106]] #[] 1057 12 #[111, 113, 115] #[{ accessFlags := 18, nameIndex := 5, descriptorIndex := 6, attributes := #[] }, { accessFlags := 18, nameIndex := 9, descriptorIndex := 10, attributes := #[] }, { accessFlags := 2, nameIndex := 19, descriptorIndex := 10, attributes := #[] }])
  fields := #[{ name := "name", type := (.object "java/lang/String"), accessFlags := 18, slot := 0, constantValue := 0 }, { name := "ordinal", type := .int, accessFlags := 18, slot := 1, constantValue := 0 }, { name := "hash", type := .int, accessFlags := 2, slot := 2, constantValue := 0 }]
  methods := #[]
  instanceTypes := #[(.object "java/lang/String"), .int, .int]
  staticTypes := #[]
  resolved := Array.replicate 204 none
  statics := none }

def pool6 : Array CpInfo := pool [(1, .class_ 2), (0, u "com/example/ushr/ushr/proxy/Attempt"), (2, u "FIRST"), (0, u "Lcom/example/ushr/ushr/proxy/Attempt;"), (0, .fieldref 1 8), (0, .nameAndType 9 6), (0, u "FIRST_ANEW"), (0, .fieldref 1 11), (0, .nameAndType 12 6), (0, u "OTHER"), (0, .fieldref 1 14), (0, .nameAndType 15 6), (0, u "OTHER_ANEW"), (2, u "$VALUES"), (0, u "[Lcom/example/ushr/ushr/proxy/Attempt;"), (6, .class_ 28), (1, u "java/lang/Enum"), (8, u "mayTakeIdle"), (0, u "Z"), (0, .fieldref 1 40), (0, .nameAndType 41 38), (0, u "otherServer"), (19, u "next"), (0, u "(Z)Lcom/example/ushr/ushr/proxy/Attempt;")] 7

def k6c0 : Code := { maxStack := 1, maxLocals := 3, code := prog_17_method_5_code, exceptionTable := #[], attributes := #[] }
def k6m0 : Method := { name := "next", desc := "(Z)Lcom/example/ushr/ushr/proxy/Attempt;", sig := { parameters := [.boolean], returnType := some (.object "com/example/ushr/ushr/proxy/Attempt") }, accessFlags := 0, code := some k6c0 }
/-- com/example/ushr/ushr/proxy/Attempt -/
def k6 : Class := { plain "com/example/ushr/ushr/proxy/Attempt" (some 5) with
  accessFlags := 16432
  interfaces := #[]
  cf := some (fileOf pool6 1 #[] #[{ accessFlags := 0, nameIndex := 61, descriptorIndex := 62, attributes := #[] }] 16432 26 #[] #[{ accessFlags := 16409, nameIndex := 5, descriptorIndex := 6, attributes := #[] }, { accessFlags := 16409, nameIndex := 9, descriptorIndex := 6, attributes := #[] }, { accessFlags := 16409, nameIndex := 12, descriptorIndex := 6, attributes := #[] }, { accessFlags := 16409, nameIndex := 15, descriptorIndex := 6, attributes := #[] }, { accessFlags := 18, nameIndex := 37, descriptorIndex := 38, attributes := #[] }, { accessFlags := 18, nameIndex := 41, descriptorIndex := 38, attributes := #[] }, { accessFlags := 4122, nameIndex := 18, descriptorIndex := 19, attributes := #[] }])
  fields := #[{ name := "FIRST", type := (.object "com/example/ushr/ushr/proxy/Attempt"), accessFlags := 16409, slot := 0, constantValue := 0 }, { name := "FIRST_ANEW", type := (.object "com/example/ushr/ushr/proxy/Attempt"), accessFlags := 16409, slot := 1, constantValue := 0 }, { name := "OTHER", type := (.object "com/example/ushr/ushr/proxy/Attempt"), accessFlags := 16409, slot := 2, constantValue := 0 }, { name := "OTHER_ANEW", type := (.object "com/example/ushr/ushr/proxy/Attempt"), accessFlags := 16409, slot := 3, constantValue := 0 }, { name := "mayTakeIdle", type := .boolean, accessFlags := 18, slot := 3, constantValue := 0 }, { name := "otherServer", type := .boolean, accessFlags := 18, slot := 4, constantValue := 0 }, { name := "$VALUES", type := (.array (.object "com/example/ushr/ushr/proxy/Attempt")), accessFlags := 4122, slot := 4, constantValue := 0 }]
  methods := #[k6m0]
  instanceTypes := #[(.object "java/lang/String"), .int, .int, .boolean, .boolean]
  staticTypes := #[(.object "com/example/ushr/ushr/proxy/Attempt"), (.object "com/example/ushr/ushr/proxy/Attempt"), (.object "com/example/ushr/ushr/proxy/Attempt"), (.object "com/example/ushr/ushr/proxy/Attempt"), (.array (.object "com/example/ushr/ushr/proxy/Attempt"))]
  resolved := Array.replicate 70 none
  statics := some 0 }

def pool7 : Array CpInfo := pool [(1, u "java/lang/Cloneable"), (0, .class_ 1), (0, u "java/lang/Object"), (0, .class_ 3)] 3

/-- java/lang/Cloneable -/
def k7 : Class := { plain "java/lang/Cloneable" (some 0) with
  accessFlags := 1537
  interfaces := #[]
  cf := some (fileOf pool7 2 #[] #[] 1537 4 #[] #[])
  fields := #[]
  methods := #[]
  instanceTypes := #[]
  staticTypes := #[]
  resolved := Array.replicate 8 none
  statics := none }

/-- the primitive byte -/
def k8 : Class := { plain "byte" none with kind := .primitive 'B', accessFlags := 0x411 }
/-- [B -/
def k9 : Class := { plain "[B" (some 0) with kind := .array 8 .byte, interfaces := #[7, 4], accessFlags := 1041 }

/-- the primitive int -/
def k10 : Class := { plain "int" none with kind := .primitive 'I', accessFlags := 0x411 }
/-- [I -/
def k11 : Class := { plain "[I" (some 0) with kind := .array 10 .int, interfaces := #[7, 4], accessFlags := 1041 }

def heap : Heap := #[{ cls := 6, slots := #[.ref 1, .ref 2, .ref 3, .ref 4, .null], vm := .statics 6 },
  { cls := 6, slots := #[.null, .int 0, .int 0, .int 0, .int 0], vm := .none },
  { cls := 6, slots := #[.null, .int 0, .int 0, .int 0, .int 0], vm := .none },
  { cls := 6, slots := #[.null, .int 0, .int 0, .int 0, .int 1], vm := .none },
  { cls := 6, slots := #[.null, .int 0, .int 0, .int 0, .int 1], vm := .none }]
def classes : Array Class := #[k0, k1, k2, k3, k4, k5, k6, k7, k8, k9, k10, k11]
def interned : List (Array UInt16 × Addr) := []
def slotsUsed : Nat := 25
def theMethod : MethodId := ⟨1, 2⟩
def args0 : Array Value := #[.int 3, .int 1]
def aboutOver (below : List Frame) : State where
  vm := { classes := classes, interned := interned.toArray }
  heap := heap
  slotsUsed := slotsUsed
  threads := #[{ frames := .invoking theMethod args0 :: below }]
def below0 : List Frame := [.native { method := ⟨0, 0⟩, args := #[] }]
def about1 : State := aboutOver below0
def p0 : Program := .bare "" "" ""
def e0 : Env := launch0.env 0 0 0
theorem w_frames : about1.frames = Frame.invoking theMethod args0 :: below0 := rfl
set_option maxRecDepth 65536 in
theorem w_args : argsFit about1.vm theMethod args0 = true := by decide +kernel
set_option maxRecDepth 65536 in
theorem w_heap : heapFits about1 = true := by decide +kernel
set_option maxRecDepth 65536 in
theorem w_runnable : about1.curStatus? = some .runnable := by decide +kernel
set_option maxRecDepth 65536 in
theorem w_alone : about1.alone = true := by decide +kernel
set_option maxRecDepth 65536 in
theorem w_named : about1.methodNamed? x = some theMethod := by decide +kernel
set_option maxRecDepth 65536 in
theorem w_hears : about1.hears theMethod below0 = true := by decide +kernel
set_option maxRecDepth 65536 in
theorem w_ripe : about1.ripe theMethod args0 below0 = true := by decide +kernel
theorem w_running : about1.status = .running := rfl
set_option maxRecDepth 65536 in
theorem w_room : about1.hasRoom e0.platform room_1 = true :=
  launch0.hasRoom_least _ room_1 (by decide +kernel) (by decide +kernel) (by decide +kernel) (by decide +kernel) (by decide +kernel) (by decide +kernel)
theorem allAtoms_all (ts : List Jvm.Cond) (a : Array Jvm.Value) (st : Jvm.State) : (allAtoms ts).before a st = ts.all (fun c => c.before a st) := by
  induction ts with
  | nil => rfl
  | cons c t ih =>
    show (Jvm.Cond.and c (allAtoms t)).before a st = _
    rw [Jvm.Cond.before_and, ih, List.all_cons]
def words1 : List Jvm.Cond := Jvm.Cond.code x code maxLocals ret :: tables_1
/-- a 'code' word, met by the world's own term for the bytes: nothing is compared byte by byte -/
theorem code_word {y : MethodName} {bytes : ByteArray} {mx : Nat} {rt : Option FieldType} {a : Array Value} {s : State} {m : MethodId} {meth : Method} {c : Code} (h1 : s.methodNamed? y = some m) (h2 : s.vm.method? m = some meth) (h3 : meth.code = some c) (h4 : c.code = bytes)
    (h5 : (c.maxLocals == mx && c.exceptionTable.isEmpty && decide (c.maxStack ≤ mostOperands) && decide (meth.sig.returnType = rt) && !meth.locks && decide (parseMethodDescriptor y.desc = some meth.sig)) = true) : (Jvm.Cond.code y bytes mx rt).before a s = true := by
  simp only [Bool.and_eq_true, beq_iff_eq, Bool.not_eq_true', decide_eq_true_eq] at h5
  obtain ⟨⟨⟨⟨⟨g1, g2⟩, g3⟩, g4⟩, g5⟩, g6⟩ := h5
  simp [Cond.before, Cond.holds, Cond.value, h1, h2, h3, h4, g1, g2, g3, g4, g5, g6]
def isCode : Jvm.Cond → Bool
  | .code _ _ _ _ => true
  | _ => false
theorem all_split {L : List Jvm.Cond} {P : Jvm.Cond → Bool} (h1 : L.all (fun c => isCode c || P c) = true) (h2 : ∀ c ∈ L.filter isCode, P c = true) : L.all P = true := by
  refine List.all_eq_true.mpr fun c hc => ?_
  have h := List.all_eq_true.mp h1 c hc
  rcases Bool.eq_false_or_eq_true (isCode c) with hi | hi
  · exact h2 c (List.mem_filter.mpr ⟨hc, hi⟩)
  · simpa [hi] using h
set_option maxRecDepth 65536 in
theorem w_c0 : (Jvm.Cond.code x code maxLocals ret).before args0 about1 = true := code_word (m := ⟨1, 2⟩) (meth := k1m2) (c := k1c2) (by decide +kernel) rfl rfl rfl (by decide +kernel)
set_option maxRecDepth 65536 in
theorem w_c1 : (Jvm.Cond.code ({ cls := "com/example/ushr/ushr/proxy/AttemptNextPinLaw", name := "of", desc := "(II)Lcom/example/ushr/ushr/proxy/Attempt;" } : Jvm.MethodName) method_2_code (2 : Nat) (Option.some (Jvm.ClassFile.FieldType.object "com/example/ushr/ushr/proxy/Attempt"))).before args0 about1 = true := code_word (m := ⟨1, 1⟩) (meth := k1m1) (c := k1c1) (by decide +kernel) rfl rfl rfl (by decide +kernel)
set_option maxRecDepth 65536 in
theorem w_c2 : (Jvm.Cond.code ({ cls := "com/example/ushr/ushr/proxy/Attempt", name := "next", desc := "(Z)Lcom/example/ushr/ushr/proxy/Attempt;" } : Jvm.MethodName) prog_17_method_5_code (3 : Nat) (Option.some (Jvm.ClassFile.FieldType.object "com/example/ushr/ushr/proxy/Attempt"))).before args0 about1 = true := code_word (m := ⟨6, 0⟩) (meth := k6m0) (c := k6c0) (by decide +kernel) rfl rfl rfl (by decide +kernel)
def codes1 : List Jvm.Cond := [Jvm.Cond.code x code maxLocals ret, Jvm.Cond.code ({ cls := "com/example/ushr/ushr/proxy/AttemptNextPinLaw", name := "of", desc := "(II)Lcom/example/ushr/ushr/proxy/Attempt;" } : Jvm.MethodName) method_2_code (2 : Nat) (Option.some (Jvm.ClassFile.FieldType.object "com/example/ushr/ushr/proxy/Attempt")), Jvm.Cond.code ({ cls := "com/example/ushr/ushr/proxy/Attempt", name := "next", desc := "(Z)Lcom/example/ushr/ushr/proxy/Attempt;" } : Jvm.MethodName) prog_17_method_5_code (3 : Nat) (Option.some (Jvm.ClassFile.FieldType.object "com/example/ushr/ushr/proxy/Attempt"))]
set_option maxRecDepth 65536 in
theorem codes_eq : words1.filter isCode = codes1 := rfl
theorem w_codes : ∀ c ∈ words1.filter isCode, c.before args0 about1 = true := by
  rw [codes_eq]
  intro c hc
  simp only [codes1, List.mem_cons, List.not_mem_nil, or_false] at hc
  rcases hc with rfl | rfl | rfl
  · exact w_c0
  · exact w_c1
  · exact w_c2
set_option maxRecDepth 65536 in
theorem w_t1 : words1.all (fun c => isCode c || c.before args0 about1) = true := by decide +kernel
theorem w_tables : (allAtoms (Jvm.Cond.code x code maxLocals ret :: tables_1)).before args0 about1 = true := by
  rw [allAtoms_all]
  show words1.all (fun c => c.before args0 about1) = true
  refine all_split ?_ w_codes
  rw [w_t1]
set_option maxRecDepth 65536 in
theorem w_case : (Jvm.Cond.and given_1 narrow_1).before args0 about1 = true := by decide +kernel
theorem w_applies : (headSpec (Jvm.Cond.code x code maxLocals ret :: tables_1) room_1).applies x e0.platform about1 = true :=
  (Spec.applies_iff w_frames).mpr ⟨w_running, w_runnable, w_alone, w_named, w_hears, w_ripe, w_room, w_tables⟩
theorem atStart : AtStart classFile x code maxLocals ret World_1 tables_1 room_1 Calls_1 rest_1 Pre_1 launch0 p0 e0 about1 theMethod args0 below0 :=
  ⟨lists_1, trivial, launch0.admits_env _ _ _, launch0.least_env, fairChoices_fair.cas, fairChoices_fair.clock, w_frames, w_args, w_heap, w_applies, trivial, trivial, w_case⟩
end start1
theorem witness_1 : WitnessClaimed_1 := ⟨start1.p0, start1.e0, start1.about1, start1.theMethod, start1.args0, start1.below0, start1.atStart⟩
end Jvm.Pilot.@@N@@
