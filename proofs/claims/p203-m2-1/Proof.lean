import JvmDerived
import JvmDerived.Pilot.@@N@@Statement
import JvmDerived.Pilot.@@N@@Code
set_option linter.unusedVariables false
set_option linter.unusedSimpArgs false
namespace Jvm.RoadKit
open Sem ClassFile Op Lib Jvm.Stand Jvm.Free Jvm.LawKit
section New
variable {p : Program} {l : Launch} {e : Env} {R : Room} {s : State} {m : MethodId} {args : Array Value} {below : List Frame} {meth : Method} {c : Code} {T : State} {locs : List Loc} {cells slots : Nat}
theorem retI (X : Stand p l e R s m args below meth c T locs cells slots) (hx : p.tables.exec = Jvm.exec) {pc : Nat} {Ls : Array Slot} {z : Int32} {rest : List Value} (hret : meth.sig.returnType = some .int) (hd : decode c.code pc = .ok (.ireturn, 1)) {fs : List Frame}
    (hl : ∀ (f : JFrame) (acts : List Action), f.method = m → f.locked = none → f.entered = [] → (doReturn e (T.setTop f) acts (some (.int z))).1 = T.setFrames fs) : Steps p.tables e below (T.setTop (mkF m pc Ls (.int z :: rest))) (T.setFrames fs) := by
  have hm' : T.vm.method? m = some meth := X.method'
  have hn : narrow .int (.int z) = .int z := rfl
  show Steps p.tables e below (T.setTop { method := m, pc := pc, locals := Ls, stack := _ :: rest, locked := none }) _
  jvm_step X.here [X.here.top, hx, hd, hm', hret, hn]
  first | (intro acts; rw [hl _ acts rfl rfl rfl]) | rw [hl _ _ rfl rfl rfl]
  exact Steps.refl _
end New
end Jvm.RoadKit
namespace Jvm.Pilot.@@N@@
open Jvm Jvm.ClassFile Sem Op Lib Jvm.Free Jvm.Stand Jvm.LawKit Jvm.RoadKit Bundle Jvm.Pilot.@@N@@.Jvm.D
section Own
variable {p : Program} {l : Launch} {e : Env} {R : Room} {s : State} {m : MethodId} {args : Array Value} {below : List Frame} {meth : Method} {c : Code} {T T' : State} {locs : List Loc} {cells slots cc nn : Nat} {f f' : JFrame} {Q : Option Value → Heap → List Loc → Prop} {Z : State} {h h' : Heap} {ws : List Addr}
/-- from this state the body comes to its end, and what it leaves is as Q says -/
def own_Ends (p : Program) (e : Env) (below : List Frame) (s : State) (Q : Option Value → Heap → List Loc → Prop) (cc nn : Nat) (T : State) (f : JFrame) : Prop :=
  ∃ s₂ o, Steps p.tables e below (T.setTop f) s₂ ∧ s₂.status = .running ∧ Ended s₂ below o ∧ ∃ v L, o = .returned v ∧ Q v s₂.heap L ∧ FrameEnd s o s₂ L cc nn
theorem own_go (k : ∀ t, Steps p.tables e below (T'.setTop f') t → Steps p.tables e below (T.setTop f) t) (h : own_Ends p e below s Q cc nn T' f') : own_Ends p e below s Q cc nn T f := by
  obtain ⟨s₂, o, h1, h2⟩ := h
  exact ⟨s₂, o, k _ h1, h2⟩
theorem own_ret (X : Stand p l e R s m args below meth c T locs cells slots) {v : Option Value} (hv : meth.sig.returnType = none → v = none) (hlk : meth.locks = false)
    (st : ∀ fs, (∀ (f : JFrame) (acts : List Action), f.method = m → f.locked = none → f.entered = [] → (doReturn e (T.setTop f) acts v).1 = T.setFrames fs) → Steps p.tables e below (T.setTop f) (T.setFrames fs)) (hQ : Q v T.heap locs) (h1 : cells ≤ cc) (h2 : slots ≤ nn) :
    own_Ends p e below s Q cc nn T f := by
  obtain ⟨fs, hr, hrun, hended, hW, hsame⟩ := X.leave (v := v) hv hlk
  exact ⟨_, _, st fs hr, hrun, hended, _, _, rfl, hQ, ⟨_, rfl⟩, hW, hsame.mono h1 h2⟩
theorem own_retL (X : Stand p l e R s m args below meth c T locs cells slots) (hx : p.tables.exec = Jvm.exec) {pc : Nat} {Ls : Array Slot} {z : Int64} {rest : List Value} (hret : meth.sig.returnType = some .long) (hd : decode c.code pc = .ok (.lreturn, 1)) {fs : List Frame}
    (hl : ∀ (f : JFrame) (acts : List Action), f.method = m → f.locked = none → f.entered = [] → (doReturn e (T.setTop f) acts (some (.long z))).1 = T.setFrames fs) : Steps p.tables e below (T.setTop (mkF m pc Ls (.long z :: rest))) (T.setFrames fs) :=
  retOut X hx hret rfl (Or.inr (Or.inl ⟨rfl, rfl, _, rfl⟩)) hd hl
theorem own_retD (X : Stand p l e R s m args below meth c T locs cells slots) (hx : p.tables.exec = Jvm.exec) {pc : Nat} {Ls : Array Slot} {z : UInt64} {rest : List Value} (hret : meth.sig.returnType = some .double) (hd : decode c.code pc = .ok (.dreturn, 1)) {fs : List Frame}
    (hl : ∀ (f : JFrame) (acts : List Action), f.method = m → f.locked = none → f.entered = [] → (doReturn e (T.setTop f) acts (some (.double z))).1 = T.setFrames fs) : Steps p.tables e below (T.setTop (mkF m pc Ls (.double z :: rest))) (T.setFrames fs) :=
  retOut X hx hret rfl (Or.inr (Or.inr (Or.inl ⟨rfl, rfl, _, rfl⟩))) hd hl
theorem own_retA (X : Stand p l e R s m args below meth c T locs cells slots) (hx : p.tables.exec = Jvm.exec) {pc : Nat} {Ls : Array Slot} {w : Value} {t : FieldType} {rest : List Value} (hret : meth.sig.returnType = some t) (ht : t.isReference = true) (hw : w.isRef = true) (hd : decode c.code pc = .ok (.areturn, 1)) {fs : List Frame}
    (hl : ∀ (f : JFrame) (acts : List Action), f.method = m → f.locked = none → f.entered = [] → (doReturn e (T.setTop f) acts (some w)).1 = T.setFrames fs) : Steps p.tables e below (T.setTop (mkF m pc Ls (w :: rest))) (T.setFrames fs) :=
  retOut X hx hret (by cases t <;> first | rfl | (cases ht; done)) (Or.inr (Or.inr (Or.inr (Or.inr ⟨rfl, ht, hw⟩)))) hd hl
theorem own_lc_lt {a b : Int64} : lcmpW a b < 0 ↔ a < b := by
  simp only [lcmpW, gt_iff_lt]
  by_cases h1 : b < a
  · rw [if_pos h1]; exact ⟨fun q => absurd q (by decide), fun q => absurd q (by rw [Int64.lt_iff_toInt_lt] at *; omega)⟩
  · rw [if_neg h1]
    by_cases h2 : a = b
    · rw [if_pos h2]; exact ⟨fun q => absurd q (by decide), fun q => absurd q (by rw [h2, Int64.lt_iff_toInt_lt]; omega)⟩
    · rw [if_neg h2]; exact ⟨fun _ => by rw [Int64.lt_iff_toInt_lt] at *; rw [← Int64.toInt_inj] at h2; omega, fun _ => by decide⟩
theorem own_lc_eq {a b : Int64} : lcmpW a b = 0 ↔ a = b := by
  simp only [lcmpW, gt_iff_lt]
  by_cases h1 : b < a
  · rw [if_pos h1]; exact ⟨fun q => absurd q (by decide), fun q => absurd h1 (by rw [q, Int64.lt_iff_toInt_lt]; omega)⟩
  · rw [if_neg h1]
    by_cases h2 : a = b
    · rw [if_pos h2]; exact ⟨fun _ => h2, fun _ => rfl⟩
    · rw [if_neg h2]; exact ⟨fun q => absurd q (by decide), fun q => absurd q h2⟩
theorem own_lc_gt {a b : Int64} : 0 < lcmpW a b ↔ b < a := by
  simp only [lcmpW, gt_iff_lt]
  by_cases h1 : b < a
  · rw [if_pos h1]; exact ⟨fun _ => h1, fun _ => by decide⟩
  · rw [if_neg h1]
    by_cases h2 : a = b
    · rw [if_pos h2]; exact ⟨fun q => absurd q (by decide), fun q => absurd q h1⟩
    · rw [if_neg h2]; exact ⟨fun q => absurd q (by decide), fun q => absurd q h1⟩
section Arr
variable {target : State} {g : JFrame} {a : Addr} {kc : ClassId} {ty : FieldType} {z : Int32} {vs : List Value} {dv : Value}
theorem own_alen (X : Stand p l e R s m args below meth c T locs cells slots) (hx : p.tables.exec = Jvm.exec) (hZ : Z.Warmed39 s.vm) (eT : T.heap = h) (V : Arv Z h a kc ty z vs dv) (hg : g.method = m) {rest : List Value} (hs : g.stack = .ref a :: rest) (hd : decode c.code g.pc = .ok (.arraylength, 1))
    (hr : Steps p.tables e below (T.setTop { g with pc := g.pc + 1, stack := .int z :: rest }) target) : Steps p.tables e below (T.setTop g) target := by
  obtain ⟨cl, Ar, -, Sz, Ng, -, -⟩ := V
  exact X.arraylength hx (by rw [eT]; exact Ar.1) (State.isArrayOf_alike hZ.alike Ar.2.1) hg hs hd _ (by rw [len_of Sz Ng]; exact hr)
theorem own_ldI (X : Stand p l e R s m args below meth c T locs cells slots) (hx : p.tables.exec = Jvm.exec) (hZ : Z.Warmed39 s.vm) (eT : T.heap = h) (V : Arv Z h a kc .int z vs dv) {j : Int32} {x : Int32} (hin : ¬ j < 0 ∧ j < z) (hv : vs.getD j.toNatClampNeg dv = .int x) (hg : g.method = m) {rest : List Value} (hs : g.stack = .int j :: .ref a :: rest) (hd : decode c.code g.pc = .ok (.iaload, 1))
    (hr : Steps p.tables e below (T.setTop { g with pc := g.pc + 1, stack := .int x :: rest }) target) : Steps p.tables e below (T.setTop g) target := by
  obtain ⟨cl, Ar, -, Sz, Ng, Hs, Ft⟩ := V
  have hq := inb_of (j := j) Sz hin
  exact X.iaload hx (j := j) (v := .int x) (by rw [eT]; exact Ar.1) (State.isArrayOf_alike hZ.alike Ar.2.1) Ar.2.2 hq (Hs.at hq hv) hg hs hd _ hr
theorem own_ldB (X : Stand p l e R s m args below meth c T locs cells slots) (hx : p.tables.exec = Jvm.exec) (hZ : Z.Warmed39 s.vm) (eT : T.heap = h) (V : Arv Z h a kc .byte z vs dv) {j : Int32} {x : Int32} (hin : ¬ j < 0 ∧ j < z) (hv : vs.getD j.toNatClampNeg dv = .int x) (hg : g.method = m) {rest : List Value} (hs : g.stack = .int j :: .ref a :: rest) (hd : decode c.code g.pc = .ok (.baload, 1))
    (hr : Steps p.tables e below (T.setTop { g with pc := g.pc + 1, stack := .int x :: rest }) target) : Steps p.tables e below (T.setTop g) target := by
  obtain ⟨cl, Ar, -, Sz, Ng, Hs, Ft⟩ := V
  have hq := inb_of (j := j) Sz hin
  exact X.baloadBytes hx (j := j) (v := .int x) (by rw [eT]; exact Ar.1) (State.isArrayOf_alike hZ.alike Ar.2.1) Ar.2.2 hq (Hs.at hq hv) hg hs hd _ hr
theorem own_ldC (X : Stand p l e R s m args below meth c T locs cells slots) (hx : p.tables.exec = Jvm.exec) (hZ : Z.Warmed39 s.vm) (eT : T.heap = h) (V : Arv Z h a kc .char z vs dv) {j : Int32} {x : Int32} (hin : ¬ j < 0 ∧ j < z) (hv : vs.getD j.toNatClampNeg dv = .int x) (hg : g.method = m) {rest : List Value} (hs : g.stack = .int j :: .ref a :: rest) (hd : decode c.code g.pc = .ok (.caload, 1))
    (hr : Steps p.tables e below (T.setTop { g with pc := g.pc + 1, stack := .int x :: rest }) target) : Steps p.tables e below (T.setTop g) target := by
  obtain ⟨cl, Ar, -, Sz, Ng, Hs, Ft⟩ := V
  have hq := inb_of (j := j) Sz hin
  exact X.caload hx (j := j) (v := .int x) (by rw [eT]; exact Ar.1) (State.isArrayOf_alike hZ.alike Ar.2.1) Ar.2.2 hq (Hs.at hq hv) hg hs hd _ hr
theorem own_ldJ (X : Stand p l e R s m args below meth c T locs cells slots) (hx : p.tables.exec = Jvm.exec) (hZ : Z.Warmed39 s.vm) (eT : T.heap = h) (V : Arv Z h a kc .long z vs dv) {j : Int32} {x : Int64} (hin : ¬ j < 0 ∧ j < z) (hv : vs.getD j.toNatClampNeg dv = .long x) (hg : g.method = m) {rest : List Value} (hs : g.stack = .int j :: .ref a :: rest) (hd : decode c.code g.pc = .ok (.laload, 1))
    (hr : Steps p.tables e below (T.setTop { g with pc := g.pc + 1, stack := .long x :: rest }) target) : Steps p.tables e below (T.setTop g) target := by
  obtain ⟨cl, Ar, -, Sz, Ng, Hs, Ft⟩ := V
  have hq := inb_of (j := j) Sz hin
  exact X.laload hx (j := j) (v := .long x) (by rw [eT]; exact Ar.1) (State.isArrayOf_alike hZ.alike Ar.2.1) Ar.2.2 hq (Hs.at hq hv) hg hs hd _ hr
theorem own_ldR (X : Stand p l e R s m args below meth c T locs cells slots) (hx : p.tables.exec = Jvm.exec) (hZ : Z.Warmed39 s.vm) (eT : T.heap = h) (V : Arv Z h a kc ty z vs dv) {j : Int32} {x : Value} (hin : ¬ j < 0 ∧ j < z) (hv : vs.getD j.toNatClampNeg dv = x) (hty : ty.isReference = true) (hg : g.method = m) {rest : List Value} (hs : g.stack = .int j :: .ref a :: rest) (hd : decode c.code g.pc = .ok (.aaload, 1))
    (hr : Steps p.tables e below (T.setTop { g with pc := g.pc + 1, stack := x :: rest }) target) : Steps p.tables e below (T.setTop g) target := by
  obtain ⟨cl, Ar, -, Sz, Ng, Hs, Ft⟩ := V
  have hq := inb_of (j := j) Sz hin
  exact X.aaload hx (j := j) (v := x) (by rw [eT]; exact Ar.1) (State.isArrayOf_alike hZ.alike Ar.2.1) hty Ar.2.2 hq (Hs.at hq hv) hg hs hd _ hr
theorem own_stI (X : Stand p l e R s m args below meth c T locs cells slots) (hx : p.tables.exec = Jvm.exec) (hZ : Z.Warmed39 s.vm) (eT : T.heap = h) (V : Arv Z h a kc .int z vs dv) {j : Int32} {x : Int32} (hin : ¬ j < 0 ∧ j < z) (i : Nat) (hj : j.toNatClampNeg = i) (hi : i < vs.length) (hg : g.method = m) {rest : List Value} (hs : g.stack = .int x :: .int j :: .ref a :: rest) (hd : decode c.code g.pc = .ok (.iastore, 1)) :
    ∃ T' h', Stand p l e R s m args below meth c T' (locs ++ [⟨a, j.toNatClampNeg⟩]) cells slots ∧ T'.heap = h' ∧ Wr h h' a j.toNatClampNeg (.int x) ∧ Arv Z h' a kc .int z (vs.set i (.int x)) dv ∧ ∀ target, Steps p.tables e below (T'.setTop { g with pc := g.pc + 1, stack := rest }) target → Steps p.tables e below (T.setTop g) target := by
  obtain ⟨cl, Ar, q, Sz, Ng, Hs, Ft⟩ := V
  obtain ⟨T', h', X', e', W', st⟩ := stI X hx hZ eT Ar (j := j) (inb_of Sz hin) hg hs hd
  exact ⟨T', h', X', e', W', Arv.set Ar q Sz Ng Hs Ft rfl W' i hj hi, st⟩
theorem own_stB (X : Stand p l e R s m args below meth c T locs cells slots) (hx : p.tables.exec = Jvm.exec) (hZ : Z.Warmed39 s.vm) (eT : T.heap = h) (V : Arv Z h a kc .byte z vs dv) {j : Int32} {x : Int32} (hin : ¬ j < 0 ∧ j < z) (i : Nat) (hj : j.toNatClampNeg = i) (hi : i < vs.length) (hg : g.method = m) {rest : List Value} (hs : g.stack = .int x :: .int j :: .ref a :: rest) (hd : decode c.code g.pc = .ok (.bastore, 1)) :
    ∃ T' h', Stand p l e R s m args below meth c T' (locs ++ [⟨a, j.toNatClampNeg⟩]) cells slots ∧ T'.heap = h' ∧ Wr h h' a j.toNatClampNeg (.int (nar .byte x)) ∧ Arv Z h' a kc .byte z (vs.set i (.int (nar .byte x))) dv ∧ ∀ target, Steps p.tables e below (T'.setTop { g with pc := g.pc + 1, stack := rest }) target → Steps p.tables e below (T.setTop g) target := by
  obtain ⟨cl, Ar, q, Sz, Ng, Hs, Ft⟩ := V
  obtain ⟨T', h', X', e', W', st⟩ := stB X hx hZ eT Ar (j := j) (inb_of Sz hin) hg hs hd
  exact ⟨T', h', X', e', W', Arv.set Ar q Sz Ng Hs Ft (fits_nar_byte _) W' i hj hi, st⟩
theorem own_stC (X : Stand p l e R s m args below meth c T locs cells slots) (hx : p.tables.exec = Jvm.exec) (hZ : Z.Warmed39 s.vm) (eT : T.heap = h) (V : Arv Z h a kc .char z vs dv) {j : Int32} {x : Int32} (hin : ¬ j < 0 ∧ j < z) (i : Nat) (hj : j.toNatClampNeg = i) (hi : i < vs.length) (hg : g.method = m) {rest : List Value} (hs : g.stack = .int x :: .int j :: .ref a :: rest) (hd : decode c.code g.pc = .ok (.castore, 1)) :
    ∃ T' h', Stand p l e R s m args below meth c T' (locs ++ [⟨a, j.toNatClampNeg⟩]) cells slots ∧ T'.heap = h' ∧ Wr h h' a j.toNatClampNeg (.int (nar .char x)) ∧ Arv Z h' a kc .char z (vs.set i (.int (nar .char x))) dv ∧ ∀ target, Steps p.tables e below (T'.setTop { g with pc := g.pc + 1, stack := rest }) target → Steps p.tables e below (T.setTop g) target := by
  obtain ⟨cl, Ar, q, Sz, Ng, Hs, Ft⟩ := V
  obtain ⟨T', h', X', e', W', st⟩ := stC X hx hZ eT Ar (j := j) (inb_of Sz hin) hg hs hd
  exact ⟨T', h', X', e', W', Arv.set Ar q Sz Ng Hs Ft (fits_nar_char _) W' i hj hi, st⟩
theorem own_stJ (X : Stand p l e R s m args below meth c T locs cells slots) (hx : p.tables.exec = Jvm.exec) (hZ : Z.Warmed39 s.vm) (eT : T.heap = h) (V : Arv Z h a kc .long z vs dv) {j : Int32} {x : Int64} (hin : ¬ j < 0 ∧ j < z) (i : Nat) (hj : j.toNatClampNeg = i) (hi : i < vs.length) (hg : g.method = m) {rest : List Value} (hs : g.stack = .long x :: .int j :: .ref a :: rest) (hd : decode c.code g.pc = .ok (.lastore, 1)) :
    ∃ T' h', Stand p l e R s m args below meth c T' (locs ++ [⟨a, j.toNatClampNeg⟩]) cells slots ∧ T'.heap = h' ∧ Wr h h' a j.toNatClampNeg (.long x) ∧ Arv Z h' a kc .long z (vs.set i (.long x)) dv ∧ ∀ target, Steps p.tables e below (T'.setTop { g with pc := g.pc + 1, stack := rest }) target → Steps p.tables e below (T.setTop g) target := by
  obtain ⟨cl, Ar, q, Sz, Ng, Hs, Ft⟩ := V
  obtain ⟨T', h', X', e', W', st⟩ := stJ X hx hZ eT Ar (j := j) (inb_of Sz hin) hg hs hd
  exact ⟨T', h', X', e', W', Arv.set Ar q Sz Ng Hs Ft rfl W' i hj hi, st⟩
theorem own_stZ (X : Stand p l e R s m args below meth c T locs cells slots) (hx : p.tables.exec = Jvm.exec) (hZ : Z.Warmed39 s.vm) (eT : T.heap = h) (V : Arv Z h a kc .boolean z vs dv) {j : Int32} {x : Int32} (hin : ¬ j < 0 ∧ j < z) (i : Nat) (hj : j.toNatClampNeg = i) (hi : i < vs.length) (hg : g.method = m) {rest : List Value} (hs : g.stack = .int x :: .int j :: .ref a :: rest) (hd : decode c.code g.pc = .ok (.bastore, 1)) :
    ∃ T' h', Stand p l e R s m args below meth c T' (locs ++ [⟨a, j.toNatClampNeg⟩]) cells slots ∧ T'.heap = h' ∧ Wr h h' a j.toNatClampNeg (.int (nar .boolean x)) ∧ Arv Z h' a kc .boolean z (vs.set i (.int (nar .boolean x))) dv ∧ ∀ target, Steps p.tables e below (T'.setTop { g with pc := g.pc + 1, stack := rest }) target → Steps p.tables e below (T.setTop g) target := by
  obtain ⟨cl, Ar, q, Sz, Ng, Hs, Ft⟩ := V
  obtain ⟨T', h', X', e', W', st⟩ := stZ X hx hZ eT Ar (j := j) (inb_of Sz hin) hg hs hd
  exact ⟨T', h', X', e', W', Arv.set Ar q Sz Ng Hs Ft (fits_nar_bool _) W' i hj hi, st⟩
theorem own_stR (X : Stand p l e R s m args below meth c T locs cells slots) (hx : p.tables.exec = Jvm.exec) (hZ : Z.Warmed39 s.vm) (eT : T.heap = h) (V : Arv Z h a kc ty z vs dv) {j : Int32} {x : Value} (hin : ¬ j < 0 ∧ j < z) (hty : ty.isReference = true) (hf : fits ty x = true) (F : ∀ cl, Arr Z h a cl ty → cl.cls = kc → Sto Z h a x) (i : Nat) (hj : j.toNatClampNeg = i) (hi : i < vs.length) (hg : g.method = m) {rest : List Value} (hs : g.stack = x :: .int j :: .ref a :: rest) (hd : decode c.code g.pc = .ok (.aastore, 1)) :
    ∃ T' h', Stand p l e R s m args below meth c T' (locs ++ [⟨a, j.toNatClampNeg⟩]) cells slots ∧ T'.heap = h' ∧ Wr h h' a j.toNatClampNeg x ∧ Arv Z h' a kc ty z (vs.set i x) dv ∧ ∀ target, Steps p.tables e below (T'.setTop { g with pc := g.pc + 1, stack := rest }) target → Steps p.tables e below (T.setTop g) target := by
  obtain ⟨cl, Ar, q, Sz, Ng, Hs, Ft⟩ := V
  obtain ⟨T', h', X', e', W', st⟩ := stR X hx hZ eT Ar (j := j) (inb_of Sz hin) hty (F cl Ar q) hg hs hd
  exact ⟨T', h', X', e', W', Arv.set Ar q Sz Ng Hs Ft hf W' i hj hi, st⟩
end Arr
section Dbl
open Jvm.Free.XS
variable {tb : Tables} [Ours tb] {target : State} {g : JFrame}
theorem own_dloadN (h : At T m c below) (hx : tb.exec = Jvm.exec) (hg : g.method = m) {k : Fin 4} {v : UInt64} (hd : decode c.code g.pc = .ok (.dload_n k, 1)) (hl : g.locals[k.val]? = some (.val (.double v))) (hr : Steps tb e below (T.setTop { g with pc := g.pc + 1, stack := .double v :: g.stack }) target) : Steps tb e below (T.setTop g) target := by
  subst hg
  jvm_step h [h.top, hx, hd, hl]
  exact hr
theorem own_dload (h : At T m c below) (hx : tb.exec = Jvm.exec) (hg : g.method = m) {k : Nat} {v : UInt64} (hd : decode c.code g.pc = .ok (.dload k, 2)) (hl : g.locals[k]? = some (.val (.double v))) (hr : Steps tb e below (T.setTop { g with pc := g.pc + 2, stack := .double v :: g.stack }) target) : Steps tb e below (T.setTop g) target := by
  subst hg
  jvm_step h [h.top, hx, hd, hl]
  exact hr
theorem own_i2d (h : At T m c below) (hx : tb.exec = Jvm.exec) (hg : g.method = m) {x : Int32} {rest : List Value} (hd : decode c.code g.pc = .ok (.i2d, 1)) (hs : g.stack = .int x :: rest) (hr : Steps tb e below (T.setTop { g with pc := g.pc + 1, stack := .double (FP.i2d x) :: rest }) target) : Steps tb e below (T.setTop g) target := by
  subst hg
  jvm_step h [h.top, hx, hd, hs]
  exact hr
theorem own_dconst0 (h : At T m c below) (hx : tb.exec = Jvm.exec) (hg : g.method = m) (hd : decode c.code g.pc = .ok (.dconst 0, 1)) (hr : Steps tb e below (T.setTop { g with pc := g.pc + 1, stack := .double FP.dconst0 :: g.stack }) target) : Steps tb e below (T.setTop g) target := by
  subst hg
  jvm_step h [h.top, hx, hd]
  exact hr
theorem own_dconst1 (h : At T m c below) (hx : tb.exec = Jvm.exec) (hg : g.method = m) (hd : decode c.code g.pc = .ok (.dconst 1, 1)) (hr : Steps tb e below (T.setTop { g with pc := g.pc + 1, stack := .double FP.dconst1 :: g.stack }) target) : Steps tb e below (T.setTop g) target := by
  subst hg
  jvm_step h [h.top, hx, hd]
  exact hr
theorem own_pop2D (h : At T m c below) (hx : tb.exec = Jvm.exec) (hg : g.method = m) {v : UInt64} {rest : List Value} (hd : decode c.code g.pc = .ok (.pop2, 1)) (hs : g.stack = .double v :: rest) (hr : Steps tb e below (T.setTop { g with pc := g.pc + 1, stack := rest }) target) : Steps tb e below (T.setTop g) target := by
  subst hg
  jvm_step h [h.top, hx, hd, hs, Value.category]
  exact hr
theorem own_lsw (h : At T m c below) (hx : tb.exec = Jvm.exec) (hg : g.method = m) {dflt : Int} {prs : Array (Int × Int)} {len : Nat} {o : Int} {pc0 pc' : Nat} (hpc : g.pc = pc0) (hd : decode c.code g.pc = .ok (.lookupswitch dflt prs, len)) {i : Int32} {rest : List Value} (hs : g.stack = .int i :: rest) (ho : lookupswitch.offset prs.toList dflt i.toInt = o) (h0 : 0 ≤ (pc0 : Int) + o) (hp : ((pc0 : Int) + o).toNat = pc') (hk : (prs.toList.zip prs.toList.tail).all (fun q => decide (q.1.1 < q.2.1)) = true)
    (hr : Steps tb e below (T.setTop { g with pc := pc', stack := rest }) target) : Steps tb e below (T.setTop g) target := by
  subst hg hpc hp
  jvm_step h [h.top, hx, hd, hs, ho, h0, lookupswitch.wp_chain]
  exact ⟨fun a b a' b' hm => by simpa using List.all_eq_true.mp hk _ hm, hr⟩
theorem own_dcmp (h : At T m c below) (hx : tb.exec = Jvm.exec) (hg : g.method = m) {x y : UInt64} {rest : List Value} {op : CmpOp} {o : Ordering} (hd : decode c.code g.pc = .ok (.dcmp op, 1)) (hs : g.stack = .double y :: .double x :: rest) (hc : FP.dcmp x y = some o) (hr : Steps tb e below (T.setTop { g with pc := g.pc + 1, stack := .int (FP.cmpInt 0 (some o)) :: rest }) target) : Steps tb e below (T.setTop g) target := by
  subst hg
  cases o <;> (jvm_step h [h.top, hx, hd, hs, hc, cmpValue]; exact hr)
end Dbl
theorem own_ne0 {s : State} {args : Array Value} {t : Term} {x : Int32} (ev : t.eval args s none [] s = some (.int x)) (h : (Cond.not (Cond.eq t (.int (0 : Int32)))).before args s = true) : ¬ (x = (0 : Int32)) := fun q => by
  subst q
  have h' := Cond.before_iff.mp h
  have e2 : (Term.int (0 : Int32)).eval args s none [] s = some (.int (0 : Int32)) := rfl
  simp only [Cond.value, ev, e2] at h'
  simp at h'
def own_sel {α : Type} (P : Prop) [Decidable P] (x y : α) : α := if P then x else y
theorem own_sel_t {α : Type} {P : Prop} [Decidable P] {x y : α} (h : P) : own_sel P x y = x := if_pos h
theorem own_sel_f {α : Type} {P : Prop} [Decidable P] {x y : α} (h : ¬ P) : own_sel P x y = y := if_neg h
def own_b2i (P : Prop) [Decidable P] : Int32 := if P then 1 else 0
theorem own_b2i_1 {P : Prop} [Decidable P] (h : P) : own_b2i P = 1 := by rw [own_b2i, if_pos h]
theorem own_b2i_congr {P R : Prop} [Decidable P] [Decidable R] (h : P ↔ R) : own_b2i P = own_b2i R := by
  by_cases q : P
  · rw [own_b2i_1 q, own_b2i_1 (h.mp q)]
  · rw [own_b2i, own_b2i, if_neg q, if_neg (fun r => q (h.mpr r))]
theorem own_b2i_t {P : Prop} [Decidable P] (h : P) : ¬ own_b2i P = 0 := by rw [own_b2i, if_pos h]; decide
theorem own_b2i_f {P : Prop} [Decidable P] (h : ¬ P) : own_b2i P = 0 := by rw [own_b2i, if_neg h]
theorem own_sta_keep {C n d : String} {v : Value} (F : Sta Z h C n d v) (K : Keep h h' ws) (q : ∀ st ∈ ws, ∀ c, h[st]? = some c → c.vm.isStatics = false) : Sta Z h' C n d v := by
  obtain ⟨cf, i, k, f, st, cell, h1, h2, h3, h4, h5, h6, h7⟩ := F
  exact ⟨cf, i, k, f, st, cell, h1, h2, h3, h4, K.2.1 st cell h5 (fun z => by rw [q st z cell h5] at h6; cases h6), h6, h7⟩
theorem own_ws0 : ∀ st ∈ ([] : List Addr), ∀ c, h[st]? = some c → c.vm.isStatics = false := fun _ q => nomatch q
theorem own_wsE {a : Addr} {C : String} (F : Exa Z h a C) (q : ∀ st ∈ ws, ∀ c, h[st]? = some c → c.vm.isStatics = false) : ∀ st ∈ a :: ws, ∀ c, h[st]? = some c → c.vm.isStatics = false := fun st hs c hc => by
  rcases List.mem_cons.mp hs with rfl | hs
  · obtain ⟨cell, k, h1, -, -, h4, -⟩ := F; cases h1.symm.trans hc; exact h4
  · exact q st hs c hc
theorem own_wsF {a : Addr} {C n d : String} {v : Value} (F : Fld Z h a C n d v) (q : ∀ st ∈ ws, ∀ c, h[st]? = some c → c.vm.isStatics = false) : ∀ st ∈ a :: ws, ∀ c, h[st]? = some c → c.vm.isStatics = false := fun st hs c hc => by
  rcases List.mem_cons.mp hs with rfl | hs
  · exact old_plain F c hc
  · exact q st hs c hc
theorem own_wsV {a : Addr} {k : ClassId} {ty : FieldType} {z : Int32} {vs : List Value} {dv : Value} (F : Arv Z h a k ty z vs dv) (q : ∀ st ∈ ws, ∀ c, h[st]? = some c → c.vm.isStatics = false) : ∀ st ∈ a :: ws, ∀ c, h[st]? = some c → c.vm.isStatics = false := fun st hs c hc => by
  rcases List.mem_cons.mp hs with rfl | hs
  · obtain ⟨cl, A, -⟩ := F; cases A.1.symm.trans hc; exact A.plain
  · exact q st hs c hc
theorem own_kx (K : Keep h h' []) : Ext h h' := ⟨K.1, fun a c q => K.2.1 a c q nin0⟩
theorem own_ins_keep {a : Addr} {C : String} {bo : Bool} (F : Ins Z h a C bo) (K : Keep h h' ws) : Ins Z h' a C bo := by
  obtain ⟨cell, cT, h1, h2, h3⟩ := F
  obtain ⟨c', q, r1, r2, r3⟩ := K.2.2 a cell h1
  exact ⟨c', cT, q, h2, by rw [r1, r2]; exact h3⟩
end Own
abbrev mn0 : MethodName := ⟨"com/example/libakin/libakin/hash/HashesFnv1aPinLaw", "fill", "([BIIII)V"⟩
theorem ow10 {Z : State} {a0 : Array Value} (hw : ∀ d ∈ tables_1, d.before a0 Z = true) : (Jvm.Cond.constantLong "com/example/libakin/libakin/hash/Hashes" (9 : Nat) (-3750763034362895579 : Int64)).before a0 Z = true := hw _ (List.mem_of_getElem? (i := 10) rfl)
abbrev mn1 : MethodName := ⟨"com/example/libakin/libakin/hash/Hashes", "fnv1a", "([B)J"⟩
theorem ow12 {Z : State} {a0 : Array Value} (hw : ∀ d ∈ tables_1, d.before a0 Z = true) : (Jvm.Cond.constantLong "com/example/libakin/libakin/hash/Hashes" (11 : Nat) (1099511628211 : Int64)).before a0 Z = true := hw _ (List.mem_of_getElem? (i := 12) rfl)
theorem ow0 {Z : State} {a0 : Array Value} (hw : ∀ d ∈ tables_1, d.before a0 Z = true) : (Jvm.Cond.arrayClass Jvm.ClassFile.FieldType.byte).before a0 Z = true := hw _ (List.mem_of_getElem? (i := 0) rfl)
theorem ow1 {Z : State} {a0 : Array Value} (hw : ∀ d ∈ tables_1, d.before a0 Z = true) : (Jvm.Cond.methodLink "com/example/libakin/libakin/hash/HashesFnv1aPinLaw" (7 : Nat) ({ cls := "com/example/libakin/libakin/hash/HashesFnv1aPinLaw", name := "fill", desc := "([BIIII)V" } : Jvm.MethodName)).before a0 Z = true := hw _ (List.mem_of_getElem? (i := 1) rfl)
theorem ow4 {Z : State} {a0 : Array Value} (hw : ∀ d ∈ tables_1, d.before a0 Z = true) : (Jvm.Cond.code ({ cls := "com/example/libakin/libakin/hash/HashesFnv1aPinLaw", name := "fill", desc := "([BIIII)V" } : Jvm.MethodName) method_2_code (5 : Nat) (Option.none : Option Jvm.ClassFile.FieldType)).before a0 Z = true := hw _ (List.mem_of_getElem? (i := 4) rfl)
theorem ow3 {Z : State} {a0 : Array Value} (hw : ∀ d ∈ tables_1, d.before a0 Z = true) : (Jvm.Cond.initialized "com/example/libakin/libakin/hash/HashesFnv1aPinLaw").before a0 Z = true := hw _ (List.mem_of_getElem? (i := 3) rfl)
theorem ow2 {Z : State} {a0 : Array Value} (hw : ∀ d ∈ tables_1, d.before a0 Z = true) : (Jvm.Cond.static ({ cls := "com/example/libakin/libakin/hash/HashesFnv1aPinLaw", name := "fill", desc := "([BIIII)V" } : Jvm.MethodName)).before a0 Z = true := hw _ (List.mem_of_getElem? (i := 2) rfl)
theorem ow5 {Z : State} {a0 : Array Value} (hw : ∀ d ∈ tables_1, d.before a0 Z = true) : (Jvm.Cond.constantLong "com/example/libakin/libakin/hash/HashesFnv1aPinLaw" (13 : Nat) (255 : Int64)).before a0 Z = true := hw _ (List.mem_of_getElem? (i := 5) rfl)
theorem ow6 {Z : State} {a0 : Array Value} (hw : ∀ d ∈ tables_1, d.before a0 Z = true) : (Jvm.Cond.methodLink "com/example/libakin/libakin/hash/HashesFnv1aPinLaw" (15 : Nat) ({ cls := "com/example/libakin/libakin/hash/Hashes", name := "fnv1a", desc := "([B)J" } : Jvm.MethodName)).before a0 Z = true := hw _ (List.mem_of_getElem? (i := 6) rfl)
theorem ow9 {Z : State} {a0 : Array Value} (hw : ∀ d ∈ tables_1, d.before a0 Z = true) : (Jvm.Cond.code ({ cls := "com/example/libakin/libakin/hash/Hashes", name := "fnv1a", desc := "([B)J" } : Jvm.MethodName) prog_13_method_2_code (7 : Nat) (Option.some Jvm.ClassFile.FieldType.long)).before a0 Z = true := hw _ (List.mem_of_getElem? (i := 9) rfl)
theorem ow8 {Z : State} {a0 : Array Value} (hw : ∀ d ∈ tables_1, d.before a0 Z = true) : (Jvm.Cond.initialized "com/example/libakin/libakin/hash/Hashes").before a0 Z = true := hw _ (List.mem_of_getElem? (i := 8) rfl)
theorem ow7 {Z : State} {a0 : Array Value} (hw : ∀ d ∈ tables_1, d.before a0 Z = true) : (Jvm.Cond.static ({ cls := "com/example/libakin/libakin/hash/Hashes", name := "fnv1a", desc := "([B)J" } : Jvm.MethodName)).before a0 Z = true := hw _ (List.mem_of_getElem? (i := 7) rfl)
theorem ow11 {Z : State} {a0 : Array Value} (hw : ∀ d ∈ tables_1, d.before a0 Z = true) : (Jvm.Cond.constantLong "com/example/libakin/libakin/hash/HashesFnv1aPinLaw" (21 : Nat) (-3750763034362895579 : Int64)).before a0 Z = true := hw _ (List.mem_of_getElem? (i := 11) rfl)
theorem ow13 {Z : State} {a0 : Array Value} (hw : ∀ d ∈ tables_1, d.before a0 Z = true) : (Jvm.Cond.constantLong "com/example/libakin/libakin/hash/HashesFnv1aPinLaw" (23 : Nat) (1099511628211 : Int64)).before a0 Z = true := hw _ (List.mem_of_getElem? (i := 13) rfl)
def own_fnv (es : List Int32) : Int64 := es.foldl (fun h b => (h ^^^ (b &&& (255 : Int32)).toInt64) * (1099511628211 : Int64)) (-3750763034362895579 : Int64)
theorem own_i8 (x : Int32) : (x.toInt8.toInt32).toInt8.toInt32 = x.toInt8.toInt32 := by
  rw [Int8.toInt8_toInt32]
theorem own_ext (y : Int32) : y.toInt64 &&& (255 : Int64) = (y &&& (255 : Int32)).toInt64 := by
  apply Int64.toBitVec_inj.mp
  show y.toBitVec.signExtend 64 &&& 255#64 = (y.toBitVec &&& 255#32).signExtend 64
  generalize y.toBitVec = b
  have h1 : ∀ i : Fin 32, (255#64).getLsbD i.val = (255#32).getLsbD i.val := by decide
  have h2 : ∀ i : Fin 64, 32 ≤ i.val → (255#64).getLsbD i.val = false := by decide
  apply BitVec.eq_of_getLsbD_eq
  intro i hi
  simp only [BitVec.getLsbD_and, BitVec.getLsbD_signExtend, BitVec.msb_and]
  by_cases h : i < 32
  · have := h1 ⟨i, h⟩
    simp only [h, hi, decide_true, Bool.true_and, if_true]
    rw [show (255#64).getLsbD i = (255#32).getLsbD i from this]
  · have := h2 ⟨i, hi⟩ (Nat.le_of_not_lt h)
    rw [show (255#64).getLsbD i = false from this]
    simp [h, show (255#32).msb = false from rfl]
theorem own_and3 (k : Int32) : k &&& (3 : Int32) = 0 ∨ k &&& (3 : Int32) = 1 ∨ k &&& (3 : Int32) = 2 ∨ k &&& (3 : Int32) = 3 := by
  have h : ∀ b : BitVec 32, (b &&& 3#32).toNat ≤ 3 := fun b => by rw [BitVec.toNat_and]; exact Nat.and_le_right
  have h1 := h k.toBitVec
  have e : (k &&& 3).toBitVec = k.toBitVec &&& 3#32 := rfl
  have h2 : (k &&& 3).toBitVec.toNat = 0 ∨ (k &&& 3).toBitVec.toNat = 1 ∨ (k &&& 3).toBitVec.toNat = 2 ∨ (k &&& 3).toBitVec.toNat = 3 := by rw [e]; omega
  rcases h2 with h | h | h | h
  · exact Or.inl (Int32.toBitVec_inj.mp (BitVec.eq_of_toNat_eq h))
  · exact Or.inr (Or.inl (Int32.toBitVec_inj.mp (BitVec.eq_of_toNat_eq h)))
  · exact Or.inr (Or.inr (Or.inl (Int32.toBitVec_inj.mp (BitVec.eq_of_toNat_eq h))))
  · exact Or.inr (Or.inr (Or.inr (Int32.toBitVec_inj.mp (BitVec.eq_of_toNat_eq h))))
theorem own_step (es : List Int32) (x : Int32) : own_fnv (es ++ [(x.toInt8.toInt32).toInt8.toInt32]) = (own_fnv es ^^^ ((x.toInt8.toInt32).toInt64 &&& (255 : Int64))) * (1099511628211 : Int64) := by
  rw [own_i8, own_ext, own_fnv, List.foldl_append]; rfl
theorem d1_0 : decode method_2_code 0 = .ok (.iload_n 1, 1) := by decide +kernel
theorem d1_1 : decode method_2_code 1 = .ok (.ifCond .le 8, 3) := by decide +kernel
theorem d1_9 : decode method_2_code 9 = .ok (.iload_n 1, 1) := by decide +kernel
theorem d1_10 : decode method_2_code 10 = .ok (.iconst 1, 1) := by decide +kernel
theorem d1_11 : decode method_2_code 11 = .ok (.if_icmp .le 8, 3) := by decide +kernel
theorem d1_19 : decode method_2_code 19 = .ok (.iload_n 1, 1) := by decide +kernel
theorem d1_20 : decode method_2_code 20 = .ok (.iconst 2, 1) := by decide +kernel
theorem d1_21 : decode method_2_code 21 = .ok (.if_icmp .le 9, 3) := by decide +kernel
theorem d1_30 : decode method_2_code 30 = .ok (.return_, 1) := by decide +kernel
theorem pn_1 : plainName "com/example/libakin/libakin/hash/HashesFnv1aPinLaw" = true := by first | (simp [plainName, overriddenIn]; done) | decide +kernel
theorem ef_rm1_0_0 (m : MethodId) (y0 : Addr) (y2 : Int32) (y3 : Int32) (y4 : Int32) : entryFrame m #[(.ref y0), (.int (0 : Int32)), (.int y2), (.int y3), (.int y4)] 5 = mkF m 0 #[.val (.ref y0), .val (.int (0 : Int32)), .val (.int y2), .val (.int y3), .val (.int y4)] [] := by first | (simp [entryFrame, mkF, argsToLocals, Value.category]; done) | rfl
def Q1_0_0 (Z : State) (y0 : Addr) (y2 : Int32) (y3 : Int32) (y4 : Int32) (kc : ClassId) (h0 : Heap) (n0 : Nat) (v : Option Value) (h : Heap) (L : List Loc) : Prop := v = none ∧ Fr n0 L ∧ Keep h0 h [y0] ∧ Arv Z h y0 kc .byte (0 : Int32) [] (.int (0 : Int32))
set_option maxRecDepth 65536 in
set_option maxHeartbeats 40000000 in
theorem rm1_0_0 (l : Launch) (Z : State) (a0 : Array Value) (hw : ∀ d ∈ tables_1, d.before a0 Z = true) (ws : List Jvm.Cond) (y0 : Addr) (y2 : Int32) (y3 : Int32) (y4 : Int32) (kc : ClassId) (h0 : Heap) (n0 : Nat) (Z0 : n0 ≤ h0.size) (V_y0 : Arv Z h0 y0 kc .byte (0 : Int32) [] (.int (0 : Int32))) (n_y0 : n0 ≤ y0) :
    MetFree l mn0 (head1 (Jvm.Cond.code mn0 method_2_code 5 none :: ws) ({ frames := 0, cells := 0, slots := 0, locals := 0 } : Room)) (fun a U => a = #[(.ref y0), (.int (0 : Int32)), (.int y2), (.int y3), (.int y4)] ∧ Z.Warmed39 U.vm ∧ U.heap = h0) (fun _ _ _ _ _ => True) (fun _ U o U' => ∃ v L, o = .returned v ∧ Q1_0_0 Z y0 y2 y3 y4 kc h0 n0 v U'.heap L ∧ FrameEnd U o U' L ({ frames := 0, cells := 0, slots := 0, locals := 0 } : Room).cells ({ frames := 0, cells := 0, slots := 0, locals := 0 } : Room).slots) := by
  refine MetFree.of_bodySF (plainFor_of_name pn_1) hisR ?_
  intro p e s m args below meth c s₁ Bd hml0 hP hK
  obtain ⟨rfl, hZ, hh⟩ := hP
  have hx := Bd.exec
  have hby := Bd.bytes
  have hml : c.maxLocals = 5 := hml0
  have hown : s.vm.findClass "com/example/libakin/libakin/hash/HashesFnv1aPinLaw" = some m.cls := findClass_of_methodNamed Bd.named
  have hnm := (name_of_methodNamed Bd.named Bd.method).1
  have X0 : Stand p l e ({ frames := 0, cells := 0, slots := 0, locals := 0 } : Room) s m #[(.ref y0), (.int (0 : Int32)), (.int y2), (.int y3), (.int y4)] below meth c s₁ [] 0 0 := Stand.of_body Bd
  have e0 : s₁.heap = h0 := by rw [← hh, Bd.state]; rfl
  have N0 := Fr.nil n0
  show own_Ends p e below s (Q1_0_0 Z y0 y2 y3 y4 kc h0 n0) _ _ s₁ _
  rw [ef_rm1_0_0 m y0 y2 y3 y4]
  refine own_go (T' := s₁) (f' := (mkF m 20 #[.val (.ref y0), .val (.int (0 : Int32)), .val (.int y2), .val (.int y3), .val (.int y4)] [(.int (0 : Int32))])) (fun _ k => XS.iloadN X0.here hx rfl (hb hby d1_0) rfl (XS.ifYes X0.here hx rfl (pc0 := 1) (pc' := 9) rfl (hb hby d1_1) rfl ((if0 _ _).trans (flt (by decide : ¬ ((0 : Int32) < (0 : Int32)))).2.2.2) (by decide) (by decide) (XS.iloadN X0.here hx rfl (hb hby d1_9) rfl (XS.iconst X0.here hx rfl (hb hby d1_10) (XS.icmpYes X0.here hx rfl (pc0 := 11) (pc' := 19) rfl (hb hby d1_11) rfl (flt (by decide : ¬ ((1 : Int32) < (0 : Int32)))).2.2.2 (by decide) (by decide) (XS.iloadN X0.here hx rfl (hb hby d1_19) rfl k)))))) ?_
  refine own_go (T' := s₁) (f' := (mkF m 30 #[.val (.ref y0), .val (.int (0 : Int32)), .val (.int y2), .val (.int y3), .val (.int y4)] [])) (fun _ k => XS.iconst X0.here hx rfl (hb hby d1_20) (XS.icmpYes X0.here hx rfl (pc0 := 21) (pc' := 30) rfl (hb hby d1_21) rfl (flt (by decide : ¬ ((2 : Int32) < (0 : Int32)))).2.2.2 (by decide) (by decide) k)) ?_
  refine own_ret X0 (v := none) (fun _ => rfl) Bd.notSynchronized (fun fs hr => X0.returnOut hx Bd.returns (hb hby d1_30) hr) ?_ (by decide) (by decide)
  show Q1_0_0 Z y0 y2 y3 y4 kc h0 n0 _ s₁.heap _
  rw [e0]
  exact ⟨rfl, N0, (Keep.refl h0 [y0]), V_y0⟩
theorem d1_4 : decode method_2_code 4 = .ok (.aload_n 0, 1) := by decide +kernel
theorem d1_5 : decode method_2_code 5 = .ok (.iconst 0, 1) := by decide +kernel
theorem d1_6 : decode method_2_code 6 = .ok (.iload_n 2, 1) := by decide +kernel
theorem d1_7 : decode method_2_code 7 = .ok (.i2b, 1) := by decide +kernel
theorem d1_8 : decode method_2_code 8 = .ok (.bastore, 1) := by decide +kernel
theorem ef_rm1_1_1 (m : MethodId) (y0 : Addr) (y2 : Int32) (y3 : Int32) (y4 : Int32) : entryFrame m #[(.ref y0), (.int (1 : Int32)), (.int y2), (.int y3), (.int y4)] 5 = mkF m 0 #[.val (.ref y0), .val (.int (1 : Int32)), .val (.int y2), .val (.int y3), .val (.int y4)] [] := by first | (simp [entryFrame, mkF, argsToLocals, Value.category]; done) | rfl
def Q1_1_1 (Z : State) (y0 : Addr) (y2 : Int32) (y3 : Int32) (y4 : Int32) (kc : ClassId) (h0 : Heap) (n0 : Nat) (v : Option Value) (h : Heap) (L : List Loc) : Prop := v = none ∧ Fr n0 L ∧ Keep h0 h [y0] ∧ Arv Z h y0 kc .byte (1 : Int32) [(.int (nar .byte (y2.toInt8.toInt32)))] (.int (0 : Int32))
set_option maxRecDepth 65536 in
set_option maxHeartbeats 40000000 in
theorem rm1_1_1 (l : Launch) (Z : State) (a0 : Array Value) (hw : ∀ d ∈ tables_1, d.before a0 Z = true) (ws : List Jvm.Cond) (y0 : Addr) (y2 : Int32) (y3 : Int32) (y4 : Int32) (kc : ClassId) (h0 : Heap) (n0 : Nat) (Z0 : n0 ≤ h0.size) (V_y0 : Arv Z h0 y0 kc .byte (1 : Int32) [(.int (0 : Int32))] (.int (0 : Int32))) (n_y0 : n0 ≤ y0) :
    MetFree l mn0 (head1 (Jvm.Cond.code mn0 method_2_code 5 none :: ws) ({ frames := 0, cells := 0, slots := 0, locals := 0 } : Room)) (fun a U => a = #[(.ref y0), (.int (1 : Int32)), (.int y2), (.int y3), (.int y4)] ∧ Z.Warmed39 U.vm ∧ U.heap = h0) (fun _ _ _ _ _ => True) (fun _ U o U' => ∃ v L, o = .returned v ∧ Q1_1_1 Z y0 y2 y3 y4 kc h0 n0 v U'.heap L ∧ FrameEnd U o U' L ({ frames := 0, cells := 0, slots := 0, locals := 0 } : Room).cells ({ frames := 0, cells := 0, slots := 0, locals := 0 } : Room).slots) := by
  refine MetFree.of_bodySF (plainFor_of_name pn_1) hisR ?_
  intro p e s m args below meth c s₁ Bd hml0 hP hK
  obtain ⟨rfl, hZ, hh⟩ := hP
  have hx := Bd.exec
  have hby := Bd.bytes
  have hml : c.maxLocals = 5 := hml0
  have hown : s.vm.findClass "com/example/libakin/libakin/hash/HashesFnv1aPinLaw" = some m.cls := findClass_of_methodNamed Bd.named
  have hnm := (name_of_methodNamed Bd.named Bd.method).1
  have X0 : Stand p l e ({ frames := 0, cells := 0, slots := 0, locals := 0 } : Room) s m #[(.ref y0), (.int (1 : Int32)), (.int y2), (.int y3), (.int y4)] below meth c s₁ [] 0 0 := Stand.of_body Bd
  have e0 : s₁.heap = h0 := by rw [← hh, Bd.state]; rfl
  have N0 := Fr.nil n0
  show own_Ends p e below s (Q1_1_1 Z y0 y2 y3 y4 kc h0 n0) _ _ s₁ _
  rw [ef_rm1_1_1 m y0 y2 y3 y4]
  refine own_go (T' := s₁) (f' := (mkF m 8 #[.val (.ref y0), .val (.int (1 : Int32)), .val (.int y2), .val (.int y3), .val (.int y4)] [(.int (y2.toInt8.toInt32)), (.int (0 : Int32)), (.ref y0)])) (fun _ k => XS.iloadN X0.here hx rfl (hb hby d1_0) rfl (XS.ifNo X0.here hx rfl (hb hby d1_1) rfl ((if0 _ _).trans (tlt (by decide : ((0 : Int32) < (1 : Int32)))).2.2.2) (XS.aloadN X0.here hx rfl (hb hby d1_4) rfl rfl (XS.iconst X0.here hx rfl (hb hby d1_5) (XS.iloadN X0.here hx rfl (hb hby d1_6) rfl (XS.i2b X0.here hx rfl (hb hby d1_7) rfl k)))))) ?_
  obtain ⟨T1, h1, X1, e1, W1, V1, st1⟩ := own_stB X0 hx hZ e0 V_y0 (j := (0 : Int32)) ⟨by decide, by decide⟩ 0 rfl (Nat.le_of_ble_eq_true rfl) (g := (mkF m 8 #[.val (.ref y0), .val (.int (1 : Int32)), .val (.int y2), .val (.int y3), .val (.int y4)] [(.int (y2.toInt8.toInt32)), (.int (0 : Int32)), (.ref y0)])) rfl rfl (hb hby d1_8)
  have K1 : Keep h0 h1 [y0] := (Keep.refl h0 [y0]).wr W1 (Or.inl (List.mem_of_getElem? (i := 0) rfl))
  have N1 := Fr.snoc X1 N0 n_y0
  refine own_go (T' := T1) (f' := (mkF m 21 #[.val (.ref y0), .val (.int (1 : Int32)), .val (.int y2), .val (.int y3), .val (.int y4)] [(.int (2 : Int32)), (.int (1 : Int32))])) (fun _ k => st1 _ (XS.iloadN X1.here hx rfl (hb hby d1_9) rfl (XS.iconst X1.here hx rfl (hb hby d1_10) (XS.icmpYes X1.here hx rfl (pc0 := 11) (pc' := 19) rfl (hb hby d1_11) rfl (flt (by decide : ¬ ((1 : Int32) < (1 : Int32)))).2.2.2 (by decide) (by decide) (XS.iloadN X1.here hx rfl (hb hby d1_19) rfl (XS.iconst X1.here hx rfl (hb hby d1_20) k)))))) ?_
  refine own_go (T' := T1) (f' := (mkF m 30 #[.val (.ref y0), .val (.int (1 : Int32)), .val (.int y2), .val (.int y3), .val (.int y4)] [])) (fun _ k => XS.icmpYes X1.here hx rfl (pc0 := 21) (pc' := 30) rfl (hb hby d1_21) rfl (flt (by decide : ¬ ((2 : Int32) < (1 : Int32)))).2.2.2 (by decide) (by decide) k) ?_
  refine own_ret X1 (v := none) (fun _ => rfl) Bd.notSynchronized (fun fs hr => X1.returnOut hx Bd.returns (hb hby d1_30) hr) ?_ (by decide) (by decide)
  show Q1_1_1 Z y0 y2 y3 y4 kc h0 n0 _ T1.heap _
  rw [e1]
  exact ⟨rfl, N1, K1, V1⟩
theorem d1_14 : decode method_2_code 14 = .ok (.aload_n 0, 1) := by decide +kernel
theorem d1_15 : decode method_2_code 15 = .ok (.iconst 1, 1) := by decide +kernel
theorem d1_16 : decode method_2_code 16 = .ok (.iload_n 3, 1) := by decide +kernel
theorem d1_17 : decode method_2_code 17 = .ok (.i2b, 1) := by decide +kernel
theorem d1_18 : decode method_2_code 18 = .ok (.bastore, 1) := by decide +kernel
theorem ef_rm1_2_2 (m : MethodId) (y0 : Addr) (y2 : Int32) (y3 : Int32) (y4 : Int32) : entryFrame m #[(.ref y0), (.int (2 : Int32)), (.int y2), (.int y3), (.int y4)] 5 = mkF m 0 #[.val (.ref y0), .val (.int (2 : Int32)), .val (.int y2), .val (.int y3), .val (.int y4)] [] := by first | (simp [entryFrame, mkF, argsToLocals, Value.category]; done) | rfl
def Q1_2_2 (Z : State) (y0 : Addr) (y2 : Int32) (y3 : Int32) (y4 : Int32) (kc : ClassId) (h0 : Heap) (n0 : Nat) (v : Option Value) (h : Heap) (L : List Loc) : Prop := v = none ∧ Fr n0 L ∧ Keep h0 h [y0] ∧ Arv Z h y0 kc .byte (2 : Int32) [(.int (nar .byte (y2.toInt8.toInt32))), (.int (nar .byte (y3.toInt8.toInt32)))] (.int (0 : Int32))
set_option maxRecDepth 65536 in
set_option maxHeartbeats 40000000 in
theorem rm1_2_2 (l : Launch) (Z : State) (a0 : Array Value) (hw : ∀ d ∈ tables_1, d.before a0 Z = true) (ws : List Jvm.Cond) (y0 : Addr) (y2 : Int32) (y3 : Int32) (y4 : Int32) (kc : ClassId) (h0 : Heap) (n0 : Nat) (Z0 : n0 ≤ h0.size) (V_y0 : Arv Z h0 y0 kc .byte (2 : Int32) [(.int (0 : Int32)), (.int (0 : Int32))] (.int (0 : Int32))) (n_y0 : n0 ≤ y0) :
    MetFree l mn0 (head1 (Jvm.Cond.code mn0 method_2_code 5 none :: ws) ({ frames := 0, cells := 0, slots := 0, locals := 0 } : Room)) (fun a U => a = #[(.ref y0), (.int (2 : Int32)), (.int y2), (.int y3), (.int y4)] ∧ Z.Warmed39 U.vm ∧ U.heap = h0) (fun _ _ _ _ _ => True) (fun _ U o U' => ∃ v L, o = .returned v ∧ Q1_2_2 Z y0 y2 y3 y4 kc h0 n0 v U'.heap L ∧ FrameEnd U o U' L ({ frames := 0, cells := 0, slots := 0, locals := 0 } : Room).cells ({ frames := 0, cells := 0, slots := 0, locals := 0 } : Room).slots) := by
  refine MetFree.of_bodySF (plainFor_of_name pn_1) hisR ?_
  intro p e s m args below meth c s₁ Bd hml0 hP hK
  obtain ⟨rfl, hZ, hh⟩ := hP
  have hx := Bd.exec
  have hby := Bd.bytes
  have hml : c.maxLocals = 5 := hml0
  have hown : s.vm.findClass "com/example/libakin/libakin/hash/HashesFnv1aPinLaw" = some m.cls := findClass_of_methodNamed Bd.named
  have hnm := (name_of_methodNamed Bd.named Bd.method).1
  have X0 : Stand p l e ({ frames := 0, cells := 0, slots := 0, locals := 0 } : Room) s m #[(.ref y0), (.int (2 : Int32)), (.int y2), (.int y3), (.int y4)] below meth c s₁ [] 0 0 := Stand.of_body Bd
  have e0 : s₁.heap = h0 := by rw [← hh, Bd.state]; rfl
  have N0 := Fr.nil n0
  show own_Ends p e below s (Q1_2_2 Z y0 y2 y3 y4 kc h0 n0) _ _ s₁ _
  rw [ef_rm1_2_2 m y0 y2 y3 y4]
  refine own_go (T' := s₁) (f' := (mkF m 8 #[.val (.ref y0), .val (.int (2 : Int32)), .val (.int y2), .val (.int y3), .val (.int y4)] [(.int (y2.toInt8.toInt32)), (.int (0 : Int32)), (.ref y0)])) (fun _ k => XS.iloadN X0.here hx rfl (hb hby d1_0) rfl (XS.ifNo X0.here hx rfl (hb hby d1_1) rfl ((if0 _ _).trans (tlt (by decide : ((0 : Int32) < (2 : Int32)))).2.2.2) (XS.aloadN X0.here hx rfl (hb hby d1_4) rfl rfl (XS.iconst X0.here hx rfl (hb hby d1_5) (XS.iloadN X0.here hx rfl (hb hby d1_6) rfl (XS.i2b X0.here hx rfl (hb hby d1_7) rfl k)))))) ?_
  obtain ⟨T1, h1, X1, e1, W1, V1, st1⟩ := own_stB X0 hx hZ e0 V_y0 (j := (0 : Int32)) ⟨by decide, by decide⟩ 0 rfl (Nat.le_of_ble_eq_true rfl) (g := (mkF m 8 #[.val (.ref y0), .val (.int (2 : Int32)), .val (.int y2), .val (.int y3), .val (.int y4)] [(.int (y2.toInt8.toInt32)), (.int (0 : Int32)), (.ref y0)])) rfl rfl (hb hby d1_8)
  have K1 : Keep h0 h1 [y0] := (Keep.refl h0 [y0]).wr W1 (Or.inl (List.mem_of_getElem? (i := 0) rfl))
  have N1 := Fr.snoc X1 N0 n_y0
  refine own_go (T' := T1) (f' := (mkF m 16 #[.val (.ref y0), .val (.int (2 : Int32)), .val (.int y2), .val (.int y3), .val (.int y4)] [(.int (1 : Int32)), (.ref y0)])) (fun _ k => st1 _ (XS.iloadN X1.here hx rfl (hb hby d1_9) rfl (XS.iconst X1.here hx rfl (hb hby d1_10) (XS.icmpNo X1.here hx rfl (hb hby d1_11) rfl (tlt (by decide : ((1 : Int32) < (2 : Int32)))).2.2.2 (XS.aloadN X1.here hx rfl (hb hby d1_14) rfl rfl (XS.iconst X1.here hx rfl (hb hby d1_15) k)))))) ?_
  refine own_go (T' := T1) (f' := (mkF m 18 #[.val (.ref y0), .val (.int (2 : Int32)), .val (.int y2), .val (.int y3), .val (.int y4)] [(.int (y3.toInt8.toInt32)), (.int (1 : Int32)), (.ref y0)])) (fun _ k => XS.iloadN X1.here hx rfl (hb hby d1_16) rfl (XS.i2b X1.here hx rfl (hb hby d1_17) rfl k)) ?_
  obtain ⟨T2, h2, X2, e2, W2, V2, st2⟩ := own_stB X1 hx hZ e1 V1 (j := (1 : Int32)) ⟨by decide, by decide⟩ 1 rfl (Nat.le_of_ble_eq_true rfl) (g := (mkF m 18 #[.val (.ref y0), .val (.int (2 : Int32)), .val (.int y2), .val (.int y3), .val (.int y4)] [(.int (y3.toInt8.toInt32)), (.int (1 : Int32)), (.ref y0)])) rfl rfl (hb hby d1_18)
  have K2 : Keep h0 h2 [y0] := K1.wr W2 (Or.inl (List.mem_of_getElem? (i := 0) rfl))
  have N2 := Fr.snoc X2 N1 n_y0
  refine own_go (T' := T2) (f' := (mkF m 30 #[.val (.ref y0), .val (.int (2 : Int32)), .val (.int y2), .val (.int y3), .val (.int y4)] [])) (fun _ k => st2 _ (XS.iloadN X2.here hx rfl (hb hby d1_19) rfl (XS.iconst X2.here hx rfl (hb hby d1_20) (XS.icmpYes X2.here hx rfl (pc0 := 21) (pc' := 30) rfl (hb hby d1_21) rfl (flt (by decide : ¬ ((2 : Int32) < (2 : Int32)))).2.2.2 (by decide) (by decide) k)))) ?_
  refine own_ret X2 (v := none) (fun _ => rfl) Bd.notSynchronized (fun fs hr => X2.returnOut hx Bd.returns (hb hby d1_30) hr) ?_ (by decide) (by decide)
  show Q1_2_2 Z y0 y2 y3 y4 kc h0 n0 _ T2.heap _
  rw [e2]
  exact ⟨rfl, N2, K2, V2⟩
theorem d1_24 : decode method_2_code 24 = .ok (.aload_n 0, 1) := by decide +kernel
theorem d1_25 : decode method_2_code 25 = .ok (.iconst 2, 1) := by decide +kernel
theorem d1_26 : decode method_2_code 26 = .ok (.iload 4, 2) := by decide +kernel
theorem d1_28 : decode method_2_code 28 = .ok (.i2b, 1) := by decide +kernel
theorem d1_29 : decode method_2_code 29 = .ok (.bastore, 1) := by decide +kernel
theorem ef_rm1_3_3 (m : MethodId) (y0 : Addr) (y2 : Int32) (y3 : Int32) (y4 : Int32) : entryFrame m #[(.ref y0), (.int (3 : Int32)), (.int y2), (.int y3), (.int y4)] 5 = mkF m 0 #[.val (.ref y0), .val (.int (3 : Int32)), .val (.int y2), .val (.int y3), .val (.int y4)] [] := by first | (simp [entryFrame, mkF, argsToLocals, Value.category]; done) | rfl
def Q1_3_3 (Z : State) (y0 : Addr) (y2 : Int32) (y3 : Int32) (y4 : Int32) (kc : ClassId) (h0 : Heap) (n0 : Nat) (v : Option Value) (h : Heap) (L : List Loc) : Prop := v = none ∧ Fr n0 L ∧ Keep h0 h [y0] ∧ Arv Z h y0 kc .byte (3 : Int32) [(.int (nar .byte (y2.toInt8.toInt32))), (.int (nar .byte (y3.toInt8.toInt32))), (.int (nar .byte (y4.toInt8.toInt32)))] (.int (0 : Int32))
set_option maxRecDepth 65536 in
set_option maxHeartbeats 40000000 in
theorem rm1_3_3 (l : Launch) (Z : State) (a0 : Array Value) (hw : ∀ d ∈ tables_1, d.before a0 Z = true) (ws : List Jvm.Cond) (y0 : Addr) (y2 : Int32) (y3 : Int32) (y4 : Int32) (kc : ClassId) (h0 : Heap) (n0 : Nat) (Z0 : n0 ≤ h0.size) (V_y0 : Arv Z h0 y0 kc .byte (3 : Int32) [(.int (0 : Int32)), (.int (0 : Int32)), (.int (0 : Int32))] (.int (0 : Int32))) (n_y0 : n0 ≤ y0) :
    MetFree l mn0 (head1 (Jvm.Cond.code mn0 method_2_code 5 none :: ws) ({ frames := 0, cells := 0, slots := 0, locals := 0 } : Room)) (fun a U => a = #[(.ref y0), (.int (3 : Int32)), (.int y2), (.int y3), (.int y4)] ∧ Z.Warmed39 U.vm ∧ U.heap = h0) (fun _ _ _ _ _ => True) (fun _ U o U' => ∃ v L, o = .returned v ∧ Q1_3_3 Z y0 y2 y3 y4 kc h0 n0 v U'.heap L ∧ FrameEnd U o U' L ({ frames := 0, cells := 0, slots := 0, locals := 0 } : Room).cells ({ frames := 0, cells := 0, slots := 0, locals := 0 } : Room).slots) := by
  refine MetFree.of_bodySF (plainFor_of_name pn_1) hisR ?_
  intro p e s m args below meth c s₁ Bd hml0 hP hK
  obtain ⟨rfl, hZ, hh⟩ := hP
  have hx := Bd.exec
  have hby := Bd.bytes
  have hml : c.maxLocals = 5 := hml0
  have hown : s.vm.findClass "com/example/libakin/libakin/hash/HashesFnv1aPinLaw" = some m.cls := findClass_of_methodNamed Bd.named
  have hnm := (name_of_methodNamed Bd.named Bd.method).1
  have X0 : Stand p l e ({ frames := 0, cells := 0, slots := 0, locals := 0 } : Room) s m #[(.ref y0), (.int (3 : Int32)), (.int y2), (.int y3), (.int y4)] below meth c s₁ [] 0 0 := Stand.of_body Bd
  have e0 : s₁.heap = h0 := by rw [← hh, Bd.state]; rfl
  have N0 := Fr.nil n0
  show own_Ends p e below s (Q1_3_3 Z y0 y2 y3 y4 kc h0 n0) _ _ s₁ _
  rw [ef_rm1_3_3 m y0 y2 y3 y4]
  refine own_go (T' := s₁) (f' := (mkF m 8 #[.val (.ref y0), .val (.int (3 : Int32)), .val (.int y2), .val (.int y3), .val (.int y4)] [(.int (y2.toInt8.toInt32)), (.int (0 : Int32)), (.ref y0)])) (fun _ k => XS.iloadN X0.here hx rfl (hb hby d1_0) rfl (XS.ifNo X0.here hx rfl (hb hby d1_1) rfl ((if0 _ _).trans (tlt (by decide : ((0 : Int32) < (3 : Int32)))).2.2.2) (XS.aloadN X0.here hx rfl (hb hby d1_4) rfl rfl (XS.iconst X0.here hx rfl (hb hby d1_5) (XS.iloadN X0.here hx rfl (hb hby d1_6) rfl (XS.i2b X0.here hx rfl (hb hby d1_7) rfl k)))))) ?_
  obtain ⟨T1, h1, X1, e1, W1, V1, st1⟩ := own_stB X0 hx hZ e0 V_y0 (j := (0 : Int32)) ⟨by decide, by decide⟩ 0 rfl (Nat.le_of_ble_eq_true rfl) (g := (mkF m 8 #[.val (.ref y0), .val (.int (3 : Int32)), .val (.int y2), .val (.int y3), .val (.int y4)] [(.int (y2.toInt8.toInt32)), (.int (0 : Int32)), (.ref y0)])) rfl rfl (hb hby d1_8)
  have K1 : Keep h0 h1 [y0] := (Keep.refl h0 [y0]).wr W1 (Or.inl (List.mem_of_getElem? (i := 0) rfl))
  have N1 := Fr.snoc X1 N0 n_y0
  refine own_go (T' := T1) (f' := (mkF m 16 #[.val (.ref y0), .val (.int (3 : Int32)), .val (.int y2), .val (.int y3), .val (.int y4)] [(.int (1 : Int32)), (.ref y0)])) (fun _ k => st1 _ (XS.iloadN X1.here hx rfl (hb hby d1_9) rfl (XS.iconst X1.here hx rfl (hb hby d1_10) (XS.icmpNo X1.here hx rfl (hb hby d1_11) rfl (tlt (by decide : ((1 : Int32) < (3 : Int32)))).2.2.2 (XS.aloadN X1.here hx rfl (hb hby d1_14) rfl rfl (XS.iconst X1.here hx rfl (hb hby d1_15) k)))))) ?_
  refine own_go (T' := T1) (f' := (mkF m 18 #[.val (.ref y0), .val (.int (3 : Int32)), .val (.int y2), .val (.int y3), .val (.int y4)] [(.int (y3.toInt8.toInt32)), (.int (1 : Int32)), (.ref y0)])) (fun _ k => XS.iloadN X1.here hx rfl (hb hby d1_16) rfl (XS.i2b X1.here hx rfl (hb hby d1_17) rfl k)) ?_
  obtain ⟨T2, h2, X2, e2, W2, V2, st2⟩ := own_stB X1 hx hZ e1 V1 (j := (1 : Int32)) ⟨by decide, by decide⟩ 1 rfl (Nat.le_of_ble_eq_true rfl) (g := (mkF m 18 #[.val (.ref y0), .val (.int (3 : Int32)), .val (.int y2), .val (.int y3), .val (.int y4)] [(.int (y3.toInt8.toInt32)), (.int (1 : Int32)), (.ref y0)])) rfl rfl (hb hby d1_18)
  have K2 : Keep h0 h2 [y0] := K1.wr W2 (Or.inl (List.mem_of_getElem? (i := 0) rfl))
  have N2 := Fr.snoc X2 N1 n_y0
  refine own_go (T' := T2) (f' := (mkF m 26 #[.val (.ref y0), .val (.int (3 : Int32)), .val (.int y2), .val (.int y3), .val (.int y4)] [(.int (2 : Int32)), (.ref y0)])) (fun _ k => st2 _ (XS.iloadN X2.here hx rfl (hb hby d1_19) rfl (XS.iconst X2.here hx rfl (hb hby d1_20) (XS.icmpNo X2.here hx rfl (hb hby d1_21) rfl (tlt (by decide : ((2 : Int32) < (3 : Int32)))).2.2.2 (XS.aloadN X2.here hx rfl (hb hby d1_24) rfl rfl (XS.iconst X2.here hx rfl (hb hby d1_25) k)))))) ?_
  refine own_go (T' := T2) (f' := (mkF m 29 #[.val (.ref y0), .val (.int (3 : Int32)), .val (.int y2), .val (.int y3), .val (.int y4)] [(.int (y4.toInt8.toInt32)), (.int (2 : Int32)), (.ref y0)])) (fun _ k => XS.iload X2.here hx rfl (hb hby d1_26) rfl (XS.i2b X2.here hx rfl (hb hby d1_28) rfl k)) ?_
  obtain ⟨T3, h3, X3, e3, W3, V3, st3⟩ := own_stB X2 hx hZ e2 V2 (j := (2 : Int32)) ⟨by decide, by decide⟩ 2 rfl (Nat.le_of_ble_eq_true rfl) (g := (mkF m 29 #[.val (.ref y0), .val (.int (3 : Int32)), .val (.int y2), .val (.int y3), .val (.int y4)] [(.int (y4.toInt8.toInt32)), (.int (2 : Int32)), (.ref y0)])) rfl rfl (hb hby d1_29)
  have K3 : Keep h0 h3 [y0] := K2.wr W3 (Or.inl (List.mem_of_getElem? (i := 0) rfl))
  have N3 := Fr.snoc X3 N2 n_y0
  refine own_go (T' := T3) (f' := (mkF m 30 #[.val (.ref y0), .val (.int (3 : Int32)), .val (.int y2), .val (.int y3), .val (.int y4)] [])) (fun _ k => st3 _ k) ?_
  refine own_ret X3 (v := none) (fun _ => rfl) Bd.notSynchronized (fun fs hr => X3.returnOut hx Bd.returns (hb hby d1_30) hr) ?_ (by decide) (by decide)
  show Q1_3_3 Z y0 y2 y3 y4 kc h0 n0 _ T3.heap _
  rw [e3]
  exact ⟨rfl, N3, K3, V3⟩
theorem ef_rm1_0_1 (m : MethodId) (y0 : Addr) (y2 : Int32) (y3 : Int32) (y4 : Int32) : entryFrame m #[(.ref y0), (.int (0 : Int32)), (.int y2), (.int y3), (.int y4)] 5 = mkF m 0 #[.val (.ref y0), .val (.int (0 : Int32)), .val (.int y2), .val (.int y3), .val (.int y4)] [] := by first | (simp [entryFrame, mkF, argsToLocals, Value.category]; done) | rfl
def Q1_0_1 (Z : State) (y0 : Addr) (y2 : Int32) (y3 : Int32) (y4 : Int32) (kc : ClassId) (h0 : Heap) (n0 : Nat) (v : Option Value) (h : Heap) (L : List Loc) : Prop := v = none ∧ Fr n0 L ∧ Keep h0 h [y0] ∧ Arv Z h y0 kc .byte (1 : Int32) [(.int (0 : Int32))] (.int (0 : Int32))
set_option maxRecDepth 65536 in
set_option maxHeartbeats 40000000 in
theorem rm1_0_1 (l : Launch) (Z : State) (a0 : Array Value) (hw : ∀ d ∈ tables_1, d.before a0 Z = true) (ws : List Jvm.Cond) (y0 : Addr) (y2 : Int32) (y3 : Int32) (y4 : Int32) (kc : ClassId) (h0 : Heap) (n0 : Nat) (Z0 : n0 ≤ h0.size) (V_y0 : Arv Z h0 y0 kc .byte (1 : Int32) [(.int (0 : Int32))] (.int (0 : Int32))) (n_y0 : n0 ≤ y0) :
    MetFree l mn0 (head1 (Jvm.Cond.code mn0 method_2_code 5 none :: ws) ({ frames := 0, cells := 0, slots := 0, locals := 0 } : Room)) (fun a U => a = #[(.ref y0), (.int (0 : Int32)), (.int y2), (.int y3), (.int y4)] ∧ Z.Warmed39 U.vm ∧ U.heap = h0) (fun _ _ _ _ _ => True) (fun _ U o U' => ∃ v L, o = .returned v ∧ Q1_0_1 Z y0 y2 y3 y4 kc h0 n0 v U'.heap L ∧ FrameEnd U o U' L ({ frames := 0, cells := 0, slots := 0, locals := 0 } : Room).cells ({ frames := 0, cells := 0, slots := 0, locals := 0 } : Room).slots) := by
  refine MetFree.of_bodySF (plainFor_of_name pn_1) hisR ?_
  intro p e s m args below meth c s₁ Bd hml0 hP hK
  obtain ⟨rfl, hZ, hh⟩ := hP
  have hx := Bd.exec
  have hby := Bd.bytes
  have hml : c.maxLocals = 5 := hml0
  have hown : s.vm.findClass "com/example/libakin/libakin/hash/HashesFnv1aPinLaw" = some m.cls := findClass_of_methodNamed Bd.named
  have hnm := (name_of_methodNamed Bd.named Bd.method).1
  have X0 : Stand p l e ({ frames := 0, cells := 0, slots := 0, locals := 0 } : Room) s m #[(.ref y0), (.int (0 : Int32)), (.int y2), (.int y3), (.int y4)] below meth c s₁ [] 0 0 := Stand.of_body Bd
  have e0 : s₁.heap = h0 := by rw [← hh, Bd.state]; rfl
  have N0 := Fr.nil n0
  show own_Ends p e below s (Q1_0_1 Z y0 y2 y3 y4 kc h0 n0) _ _ s₁ _
  rw [ef_rm1_0_1 m y0 y2 y3 y4]
  refine own_go (T' := s₁) (f' := (mkF m 20 #[.val (.ref y0), .val (.int (0 : Int32)), .val (.int y2), .val (.int y3), .val (.int y4)] [(.int (0 : Int32))])) (fun _ k => XS.iloadN X0.here hx rfl (hb hby d1_0) rfl (XS.ifYes X0.here hx rfl (pc0 := 1) (pc' := 9) rfl (hb hby d1_1) rfl ((if0 _ _).trans (flt (by decide : ¬ ((0 : Int32) < (0 : Int32)))).2.2.2) (by decide) (by decide) (XS.iloadN X0.here hx rfl (hb hby d1_9) rfl (XS.iconst X0.here hx rfl (hb hby d1_10) (XS.icmpYes X0.here hx rfl (pc0 := 11) (pc' := 19) rfl (hb hby d1_11) rfl (flt (by decide : ¬ ((1 : Int32) < (0 : Int32)))).2.2.2 (by decide) (by decide) (XS.iloadN X0.here hx rfl (hb hby d1_19) rfl k)))))) ?_
  refine own_go (T' := s₁) (f' := (mkF m 30 #[.val (.ref y0), .val (.int (0 : Int32)), .val (.int y2), .val (.int y3), .val (.int y4)] [])) (fun _ k => XS.iconst X0.here hx rfl (hb hby d1_20) (XS.icmpYes X0.here hx rfl (pc0 := 21) (pc' := 30) rfl (hb hby d1_21) rfl (flt (by decide : ¬ ((2 : Int32) < (0 : Int32)))).2.2.2 (by decide) (by decide) k)) ?_
  refine own_ret X0 (v := none) (fun _ => rfl) Bd.notSynchronized (fun fs hr => X0.returnOut hx Bd.returns (hb hby d1_30) hr) ?_ (by decide) (by decide)
  show Q1_0_1 Z y0 y2 y3 y4 kc h0 n0 _ s₁.heap _
  rw [e0]
  exact ⟨rfl, N0, (Keep.refl h0 [y0]), V_y0⟩
theorem ef_rm1_1_2 (m : MethodId) (y0 : Addr) (y2 : Int32) (y3 : Int32) (y4 : Int32) : entryFrame m #[(.ref y0), (.int (1 : Int32)), (.int y2), (.int y3), (.int y4)] 5 = mkF m 0 #[.val (.ref y0), .val (.int (1 : Int32)), .val (.int y2), .val (.int y3), .val (.int y4)] [] := by first | (simp [entryFrame, mkF, argsToLocals, Value.category]; done) | rfl
def Q1_1_2 (Z : State) (y0 : Addr) (y2 : Int32) (y3 : Int32) (y4 : Int32) (kc : ClassId) (h0 : Heap) (n0 : Nat) (v : Option Value) (h : Heap) (L : List Loc) : Prop := v = none ∧ Fr n0 L ∧ Keep h0 h [y0] ∧ Arv Z h y0 kc .byte (2 : Int32) [(.int (nar .byte (y2.toInt8.toInt32))), (.int (0 : Int32))] (.int (0 : Int32))
set_option maxRecDepth 65536 in
set_option maxHeartbeats 40000000 in
theorem rm1_1_2 (l : Launch) (Z : State) (a0 : Array Value) (hw : ∀ d ∈ tables_1, d.before a0 Z = true) (ws : List Jvm.Cond) (y0 : Addr) (y2 : Int32) (y3 : Int32) (y4 : Int32) (kc : ClassId) (h0 : Heap) (n0 : Nat) (Z0 : n0 ≤ h0.size) (V_y0 : Arv Z h0 y0 kc .byte (2 : Int32) [(.int (0 : Int32)), (.int (0 : Int32))] (.int (0 : Int32))) (n_y0 : n0 ≤ y0) :
    MetFree l mn0 (head1 (Jvm.Cond.code mn0 method_2_code 5 none :: ws) ({ frames := 0, cells := 0, slots := 0, locals := 0 } : Room)) (fun a U => a = #[(.ref y0), (.int (1 : Int32)), (.int y2), (.int y3), (.int y4)] ∧ Z.Warmed39 U.vm ∧ U.heap = h0) (fun _ _ _ _ _ => True) (fun _ U o U' => ∃ v L, o = .returned v ∧ Q1_1_2 Z y0 y2 y3 y4 kc h0 n0 v U'.heap L ∧ FrameEnd U o U' L ({ frames := 0, cells := 0, slots := 0, locals := 0 } : Room).cells ({ frames := 0, cells := 0, slots := 0, locals := 0 } : Room).slots) := by
  refine MetFree.of_bodySF (plainFor_of_name pn_1) hisR ?_
  intro p e s m args below meth c s₁ Bd hml0 hP hK
  obtain ⟨rfl, hZ, hh⟩ := hP
  have hx := Bd.exec
  have hby := Bd.bytes
  have hml : c.maxLocals = 5 := hml0
  have hown : s.vm.findClass "com/example/libakin/libakin/hash/HashesFnv1aPinLaw" = some m.cls := findClass_of_methodNamed Bd.named
  have hnm := (name_of_methodNamed Bd.named Bd.method).1
  have X0 : Stand p l e ({ frames := 0, cells := 0, slots := 0, locals := 0 } : Room) s m #[(.ref y0), (.int (1 : Int32)), (.int y2), (.int y3), (.int y4)] below meth c s₁ [] 0 0 := Stand.of_body Bd
  have e0 : s₁.heap = h0 := by rw [← hh, Bd.state]; rfl
  have N0 := Fr.nil n0
  show own_Ends p e below s (Q1_1_2 Z y0 y2 y3 y4 kc h0 n0) _ _ s₁ _
  rw [ef_rm1_1_2 m y0 y2 y3 y4]
  refine own_go (T' := s₁) (f' := (mkF m 8 #[.val (.ref y0), .val (.int (1 : Int32)), .val (.int y2), .val (.int y3), .val (.int y4)] [(.int (y2.toInt8.toInt32)), (.int (0 : Int32)), (.ref y0)])) (fun _ k => XS.iloadN X0.here hx rfl (hb hby d1_0) rfl (XS.ifNo X0.here hx rfl (hb hby d1_1) rfl ((if0 _ _).trans (tlt (by decide : ((0 : Int32) < (1 : Int32)))).2.2.2) (XS.aloadN X0.here hx rfl (hb hby d1_4) rfl rfl (XS.iconst X0.here hx rfl (hb hby d1_5) (XS.iloadN X0.here hx rfl (hb hby d1_6) rfl (XS.i2b X0.here hx rfl (hb hby d1_7) rfl k)))))) ?_
  obtain ⟨T1, h1, X1, e1, W1, V1, st1⟩ := own_stB X0 hx hZ e0 V_y0 (j := (0 : Int32)) ⟨by decide, by decide⟩ 0 rfl (Nat.le_of_ble_eq_true rfl) (g := (mkF m 8 #[.val (.ref y0), .val (.int (1 : Int32)), .val (.int y2), .val (.int y3), .val (.int y4)] [(.int (y2.toInt8.toInt32)), (.int (0 : Int32)), (.ref y0)])) rfl rfl (hb hby d1_8)
  have K1 : Keep h0 h1 [y0] := (Keep.refl h0 [y0]).wr W1 (Or.inl (List.mem_of_getElem? (i := 0) rfl))
  have N1 := Fr.snoc X1 N0 n_y0
  refine own_go (T' := T1) (f' := (mkF m 21 #[.val (.ref y0), .val (.int (1 : Int32)), .val (.int y2), .val (.int y3), .val (.int y4)] [(.int (2 : Int32)), (.int (1 : Int32))])) (fun _ k => st1 _ (XS.iloadN X1.here hx rfl (hb hby d1_9) rfl (XS.iconst X1.here hx rfl (hb hby d1_10) (XS.icmpYes X1.here hx rfl (pc0 := 11) (pc' := 19) rfl (hb hby d1_11) rfl (flt (by decide : ¬ ((1 : Int32) < (1 : Int32)))).2.2.2 (by decide) (by decide) (XS.iloadN X1.here hx rfl (hb hby d1_19) rfl (XS.iconst X1.here hx rfl (hb hby d1_20) k)))))) ?_
  refine own_go (T' := T1) (f' := (mkF m 30 #[.val (.ref y0), .val (.int (1 : Int32)), .val (.int y2), .val (.int y3), .val (.int y4)] [])) (fun _ k => XS.icmpYes X1.here hx rfl (pc0 := 21) (pc' := 30) rfl (hb hby d1_21) rfl (flt (by decide : ¬ ((2 : Int32) < (1 : Int32)))).2.2.2 (by decide) (by decide) k) ?_
  refine own_ret X1 (v := none) (fun _ => rfl) Bd.notSynchronized (fun fs hr => X1.returnOut hx Bd.returns (hb hby d1_30) hr) ?_ (by decide) (by decide)
  show Q1_1_2 Z y0 y2 y3 y4 kc h0 n0 _ T1.heap _
  rw [e1]
  exact ⟨rfl, N1, K1, V1⟩
theorem ef_rm1_2_3 (m : MethodId) (y0 : Addr) (y2 : Int32) (y3 : Int32) (y4 : Int32) : entryFrame m #[(.ref y0), (.int (2 : Int32)), (.int y2), (.int y3), (.int y4)] 5 = mkF m 0 #[.val (.ref y0), .val (.int (2 : Int32)), .val (.int y2), .val (.int y3), .val (.int y4)] [] := by first | (simp [entryFrame, mkF, argsToLocals, Value.category]; done) | rfl
def Q1_2_3 (Z : State) (y0 : Addr) (y2 : Int32) (y3 : Int32) (y4 : Int32) (kc : ClassId) (h0 : Heap) (n0 : Nat) (v : Option Value) (h : Heap) (L : List Loc) : Prop := v = none ∧ Fr n0 L ∧ Keep h0 h [y0] ∧ Arv Z h y0 kc .byte (3 : Int32) [(.int (nar .byte (y2.toInt8.toInt32))), (.int (nar .byte (y3.toInt8.toInt32))), (.int (0 : Int32))] (.int (0 : Int32))
set_option maxRecDepth 65536 in
set_option maxHeartbeats 40000000 in
theorem rm1_2_3 (l : Launch) (Z : State) (a0 : Array Value) (hw : ∀ d ∈ tables_1, d.before a0 Z = true) (ws : List Jvm.Cond) (y0 : Addr) (y2 : Int32) (y3 : Int32) (y4 : Int32) (kc : ClassId) (h0 : Heap) (n0 : Nat) (Z0 : n0 ≤ h0.size) (V_y0 : Arv Z h0 y0 kc .byte (3 : Int32) [(.int (0 : Int32)), (.int (0 : Int32)), (.int (0 : Int32))] (.int (0 : Int32))) (n_y0 : n0 ≤ y0) :
    MetFree l mn0 (head1 (Jvm.Cond.code mn0 method_2_code 5 none :: ws) ({ frames := 0, cells := 0, slots := 0, locals := 0 } : Room)) (fun a U => a = #[(.ref y0), (.int (2 : Int32)), (.int y2), (.int y3), (.int y4)] ∧ Z.Warmed39 U.vm ∧ U.heap = h0) (fun _ _ _ _ _ => True) (fun _ U o U' => ∃ v L, o = .returned v ∧ Q1_2_3 Z y0 y2 y3 y4 kc h0 n0 v U'.heap L ∧ FrameEnd U o U' L ({ frames := 0, cells := 0, slots := 0, locals := 0 } : Room).cells ({ frames := 0, cells := 0, slots := 0, locals := 0 } : Room).slots) := by
  refine MetFree.of_bodySF (plainFor_of_name pn_1) hisR ?_
  intro p e s m args below meth c s₁ Bd hml0 hP hK
  obtain ⟨rfl, hZ, hh⟩ := hP
  have hx := Bd.exec
  have hby := Bd.bytes
  have hml : c.maxLocals = 5 := hml0
  have hown : s.vm.findClass "com/example/libakin/libakin/hash/HashesFnv1aPinLaw" = some m.cls := findClass_of_methodNamed Bd.named
  have hnm := (name_of_methodNamed Bd.named Bd.method).1
  have X0 : Stand p l e ({ frames := 0, cells := 0, slots := 0, locals := 0 } : Room) s m #[(.ref y0), (.int (2 : Int32)), (.int y2), (.int y3), (.int y4)] below meth c s₁ [] 0 0 := Stand.of_body Bd
  have e0 : s₁.heap = h0 := by rw [← hh, Bd.state]; rfl
  have N0 := Fr.nil n0
  show own_Ends p e below s (Q1_2_3 Z y0 y2 y3 y4 kc h0 n0) _ _ s₁ _
  rw [ef_rm1_2_3 m y0 y2 y3 y4]
  refine own_go (T' := s₁) (f' := (mkF m 8 #[.val (.ref y0), .val (.int (2 : Int32)), .val (.int y2), .val (.int y3), .val (.int y4)] [(.int (y2.toInt8.toInt32)), (.int (0 : Int32)), (.ref y0)])) (fun _ k => XS.iloadN X0.here hx rfl (hb hby d1_0) rfl (XS.ifNo X0.here hx rfl (hb hby d1_1) rfl ((if0 _ _).trans (tlt (by decide : ((0 : Int32) < (2 : Int32)))).2.2.2) (XS.aloadN X0.here hx rfl (hb hby d1_4) rfl rfl (XS.iconst X0.here hx rfl (hb hby d1_5) (XS.iloadN X0.here hx rfl (hb hby d1_6) rfl (XS.i2b X0.here hx rfl (hb hby d1_7) rfl k)))))) ?_
  obtain ⟨T1, h1, X1, e1, W1, V1, st1⟩ := own_stB X0 hx hZ e0 V_y0 (j := (0 : Int32)) ⟨by decide, by decide⟩ 0 rfl (Nat.le_of_ble_eq_true rfl) (g := (mkF m 8 #[.val (.ref y0), .val (.int (2 : Int32)), .val (.int y2), .val (.int y3), .val (.int y4)] [(.int (y2.toInt8.toInt32)), (.int (0 : Int32)), (.ref y0)])) rfl rfl (hb hby d1_8)
  have K1 : Keep h0 h1 [y0] := (Keep.refl h0 [y0]).wr W1 (Or.inl (List.mem_of_getElem? (i := 0) rfl))
  have N1 := Fr.snoc X1 N0 n_y0
  refine own_go (T' := T1) (f' := (mkF m 16 #[.val (.ref y0), .val (.int (2 : Int32)), .val (.int y2), .val (.int y3), .val (.int y4)] [(.int (1 : Int32)), (.ref y0)])) (fun _ k => st1 _ (XS.iloadN X1.here hx rfl (hb hby d1_9) rfl (XS.iconst X1.here hx rfl (hb hby d1_10) (XS.icmpNo X1.here hx rfl (hb hby d1_11) rfl (tlt (by decide : ((1 : Int32) < (2 : Int32)))).2.2.2 (XS.aloadN X1.here hx rfl (hb hby d1_14) rfl rfl (XS.iconst X1.here hx rfl (hb hby d1_15) k)))))) ?_
  refine own_go (T' := T1) (f' := (mkF m 18 #[.val (.ref y0), .val (.int (2 : Int32)), .val (.int y2), .val (.int y3), .val (.int y4)] [(.int (y3.toInt8.toInt32)), (.int (1 : Int32)), (.ref y0)])) (fun _ k => XS.iloadN X1.here hx rfl (hb hby d1_16) rfl (XS.i2b X1.here hx rfl (hb hby d1_17) rfl k)) ?_
  obtain ⟨T2, h2, X2, e2, W2, V2, st2⟩ := own_stB X1 hx hZ e1 V1 (j := (1 : Int32)) ⟨by decide, by decide⟩ 1 rfl (Nat.le_of_ble_eq_true rfl) (g := (mkF m 18 #[.val (.ref y0), .val (.int (2 : Int32)), .val (.int y2), .val (.int y3), .val (.int y4)] [(.int (y3.toInt8.toInt32)), (.int (1 : Int32)), (.ref y0)])) rfl rfl (hb hby d1_18)
  have K2 : Keep h0 h2 [y0] := K1.wr W2 (Or.inl (List.mem_of_getElem? (i := 0) rfl))
  have N2 := Fr.snoc X2 N1 n_y0
  refine own_go (T' := T2) (f' := (mkF m 30 #[.val (.ref y0), .val (.int (2 : Int32)), .val (.int y2), .val (.int y3), .val (.int y4)] [])) (fun _ k => st2 _ (XS.iloadN X2.here hx rfl (hb hby d1_19) rfl (XS.iconst X2.here hx rfl (hb hby d1_20) (XS.icmpYes X2.here hx rfl (pc0 := 21) (pc' := 30) rfl (hb hby d1_21) rfl (flt (by decide : ¬ ((2 : Int32) < (2 : Int32)))).2.2.2 (by decide) (by decide) k)))) ?_
  refine own_ret X2 (v := none) (fun _ => rfl) Bd.notSynchronized (fun fs hr => X2.returnOut hx Bd.returns (hb hby d1_30) hr) ?_ (by decide) (by decide)
  show Q1_2_3 Z y0 y2 y3 y4 kc h0 n0 _ T2.heap _
  rw [e2]
  exact ⟨rfl, N2, K2, V2⟩
theorem ef_rm1_3_4 (m : MethodId) (y0 : Addr) (y2 : Int32) (y3 : Int32) (y4 : Int32) : entryFrame m #[(.ref y0), (.int (3 : Int32)), (.int y2), (.int y3), (.int y4)] 5 = mkF m 0 #[.val (.ref y0), .val (.int (3 : Int32)), .val (.int y2), .val (.int y3), .val (.int y4)] [] := by first | (simp [entryFrame, mkF, argsToLocals, Value.category]; done) | rfl
def Q1_3_4 (Z : State) (y0 : Addr) (y2 : Int32) (y3 : Int32) (y4 : Int32) (kc : ClassId) (h0 : Heap) (n0 : Nat) (v : Option Value) (h : Heap) (L : List Loc) : Prop := v = none ∧ Fr n0 L ∧ Keep h0 h [y0] ∧ Arv Z h y0 kc .byte (4 : Int32) [(.int (nar .byte (y2.toInt8.toInt32))), (.int (nar .byte (y3.toInt8.toInt32))), (.int (nar .byte (y4.toInt8.toInt32))), (.int (0 : Int32))] (.int (0 : Int32))
set_option maxRecDepth 65536 in
set_option maxHeartbeats 40000000 in
theorem rm1_3_4 (l : Launch) (Z : State) (a0 : Array Value) (hw : ∀ d ∈ tables_1, d.before a0 Z = true) (ws : List Jvm.Cond) (y0 : Addr) (y2 : Int32) (y3 : Int32) (y4 : Int32) (kc : ClassId) (h0 : Heap) (n0 : Nat) (Z0 : n0 ≤ h0.size) (V_y0 : Arv Z h0 y0 kc .byte (4 : Int32) [(.int (0 : Int32)), (.int (0 : Int32)), (.int (0 : Int32)), (.int (0 : Int32))] (.int (0 : Int32))) (n_y0 : n0 ≤ y0) :
    MetFree l mn0 (head1 (Jvm.Cond.code mn0 method_2_code 5 none :: ws) ({ frames := 0, cells := 0, slots := 0, locals := 0 } : Room)) (fun a U => a = #[(.ref y0), (.int (3 : Int32)), (.int y2), (.int y3), (.int y4)] ∧ Z.Warmed39 U.vm ∧ U.heap = h0) (fun _ _ _ _ _ => True) (fun _ U o U' => ∃ v L, o = .returned v ∧ Q1_3_4 Z y0 y2 y3 y4 kc h0 n0 v U'.heap L ∧ FrameEnd U o U' L ({ frames := 0, cells := 0, slots := 0, locals := 0 } : Room).cells ({ frames := 0, cells := 0, slots := 0, locals := 0 } : Room).slots) := by
  refine MetFree.of_bodySF (plainFor_of_name pn_1) hisR ?_
  intro p e s m args below meth c s₁ Bd hml0 hP hK
  obtain ⟨rfl, hZ, hh⟩ := hP
  have hx := Bd.exec
  have hby := Bd.bytes
  have hml : c.maxLocals = 5 := hml0
  have hown : s.vm.findClass "com/example/libakin/libakin/hash/HashesFnv1aPinLaw" = some m.cls := findClass_of_methodNamed Bd.named
  have hnm := (name_of_methodNamed Bd.named Bd.method).1
  have X0 : Stand p l e ({ frames := 0, cells := 0, slots := 0, locals := 0 } : Room) s m #[(.ref y0), (.int (3 : Int32)), (.int y2), (.int y3), (.int y4)] below meth c s₁ [] 0 0 := Stand.of_body Bd
  have e0 : s₁.heap = h0 := by rw [← hh, Bd.state]; rfl
  have N0 := Fr.nil n0
  show own_Ends p e below s (Q1_3_4 Z y0 y2 y3 y4 kc h0 n0) _ _ s₁ _
  rw [ef_rm1_3_4 m y0 y2 y3 y4]
  refine own_go (T' := s₁) (f' := (mkF m 8 #[.val (.ref y0), .val (.int (3 : Int32)), .val (.int y2), .val (.int y3), .val (.int y4)] [(.int (y2.toInt8.toInt32)), (.int (0 : Int32)), (.ref y0)])) (fun _ k => XS.iloadN X0.here hx rfl (hb hby d1_0) rfl (XS.ifNo X0.here hx rfl (hb hby d1_1) rfl ((if0 _ _).trans (tlt (by decide : ((0 : Int32) < (3 : Int32)))).2.2.2) (XS.aloadN X0.here hx rfl (hb hby d1_4) rfl rfl (XS.iconst X0.here hx rfl (hb hby d1_5) (XS.iloadN X0.here hx rfl (hb hby d1_6) rfl (XS.i2b X0.here hx rfl (hb hby d1_7) rfl k)))))) ?_
  obtain ⟨T1, h1, X1, e1, W1, V1, st1⟩ := own_stB X0 hx hZ e0 V_y0 (j := (0 : Int32)) ⟨by decide, by decide⟩ 0 rfl (Nat.le_of_ble_eq_true rfl) (g := (mkF m 8 #[.val (.ref y0), .val (.int (3 : Int32)), .val (.int y2), .val (.int y3), .val (.int y4)] [(.int (y2.toInt8.toInt32)), (.int (0 : Int32)), (.ref y0)])) rfl rfl (hb hby d1_8)
  have K1 : Keep h0 h1 [y0] := (Keep.refl h0 [y0]).wr W1 (Or.inl (List.mem_of_getElem? (i := 0) rfl))
  have N1 := Fr.snoc X1 N0 n_y0
  refine own_go (T' := T1) (f' := (mkF m 16 #[.val (.ref y0), .val (.int (3 : Int32)), .val (.int y2), .val (.int y3), .val (.int y4)] [(.int (1 : Int32)), (.ref y0)])) (fun _ k => st1 _ (XS.iloadN X1.here hx rfl (hb hby d1_9) rfl (XS.iconst X1.here hx rfl (hb hby d1_10) (XS.icmpNo X1.here hx rfl (hb hby d1_11) rfl (tlt (by decide : ((1 : Int32) < (3 : Int32)))).2.2.2 (XS.aloadN X1.here hx rfl (hb hby d1_14) rfl rfl (XS.iconst X1.here hx rfl (hb hby d1_15) k)))))) ?_
  refine own_go (T' := T1) (f' := (mkF m 18 #[.val (.ref y0), .val (.int (3 : Int32)), .val (.int y2), .val (.int y3), .val (.int y4)] [(.int (y3.toInt8.toInt32)), (.int (1 : Int32)), (.ref y0)])) (fun _ k => XS.iloadN X1.here hx rfl (hb hby d1_16) rfl (XS.i2b X1.here hx rfl (hb hby d1_17) rfl k)) ?_
  obtain ⟨T2, h2, X2, e2, W2, V2, st2⟩ := own_stB X1 hx hZ e1 V1 (j := (1 : Int32)) ⟨by decide, by decide⟩ 1 rfl (Nat.le_of_ble_eq_true rfl) (g := (mkF m 18 #[.val (.ref y0), .val (.int (3 : Int32)), .val (.int y2), .val (.int y3), .val (.int y4)] [(.int (y3.toInt8.toInt32)), (.int (1 : Int32)), (.ref y0)])) rfl rfl (hb hby d1_18)
  have K2 : Keep h0 h2 [y0] := K1.wr W2 (Or.inl (List.mem_of_getElem? (i := 0) rfl))
  have N2 := Fr.snoc X2 N1 n_y0
  refine own_go (T' := T2) (f' := (mkF m 26 #[.val (.ref y0), .val (.int (3 : Int32)), .val (.int y2), .val (.int y3), .val (.int y4)] [(.int (2 : Int32)), (.ref y0)])) (fun _ k => st2 _ (XS.iloadN X2.here hx rfl (hb hby d1_19) rfl (XS.iconst X2.here hx rfl (hb hby d1_20) (XS.icmpNo X2.here hx rfl (hb hby d1_21) rfl (tlt (by decide : ((2 : Int32) < (3 : Int32)))).2.2.2 (XS.aloadN X2.here hx rfl (hb hby d1_24) rfl rfl (XS.iconst X2.here hx rfl (hb hby d1_25) k)))))) ?_
  refine own_go (T' := T2) (f' := (mkF m 29 #[.val (.ref y0), .val (.int (3 : Int32)), .val (.int y2), .val (.int y3), .val (.int y4)] [(.int (y4.toInt8.toInt32)), (.int (2 : Int32)), (.ref y0)])) (fun _ k => XS.iload X2.here hx rfl (hb hby d1_26) rfl (XS.i2b X2.here hx rfl (hb hby d1_28) rfl k)) ?_
  obtain ⟨T3, h3, X3, e3, W3, V3, st3⟩ := own_stB X2 hx hZ e2 V2 (j := (2 : Int32)) ⟨by decide, by decide⟩ 2 rfl (Nat.le_of_ble_eq_true rfl) (g := (mkF m 29 #[.val (.ref y0), .val (.int (3 : Int32)), .val (.int y2), .val (.int y3), .val (.int y4)] [(.int (y4.toInt8.toInt32)), (.int (2 : Int32)), (.ref y0)])) rfl rfl (hb hby d1_29)
  have K3 : Keep h0 h3 [y0] := K2.wr W3 (Or.inl (List.mem_of_getElem? (i := 0) rfl))
  have N3 := Fr.snoc X3 N2 n_y0
  refine own_go (T' := T3) (f' := (mkF m 30 #[.val (.ref y0), .val (.int (3 : Int32)), .val (.int y2), .val (.int y3), .val (.int y4)] [])) (fun _ k => st3 _ k) ?_
  refine own_ret X3 (v := none) (fun _ => rfl) Bd.notSynchronized (fun fs hr => X3.returnOut hx Bd.returns (hb hby d1_30) hr) ?_ (by decide) (by decide)
  show Q1_3_4 Z y0 y2 y3 y4 kc h0 n0 _ T3.heap _
  rw [e3]
  exact ⟨rfl, N3, K3, V3⟩
theorem d2_0 : decode prog_13_method_2_code 0 = .ok (.ldc2_w 9, 3) := by decide +kernel
theorem d2_3 : decode prog_13_method_2_code 3 = .ok (.lstore_n 1, 1) := by decide +kernel
theorem d2_4 : decode prog_13_method_2_code 4 = .ok (.aload_n 0, 1) := by decide +kernel
theorem d2_5 : decode prog_13_method_2_code 5 = .ok (.astore_n 3, 1) := by decide +kernel
theorem d2_6 : decode prog_13_method_2_code 6 = .ok (.aload_n 3, 1) := by decide +kernel
theorem d2_7 : decode prog_13_method_2_code 7 = .ok (.arraylength, 1) := by decide +kernel
theorem d2_8 : decode prog_13_method_2_code 8 = .ok (.istore 4, 2) := by decide +kernel
theorem d2_10 : decode prog_13_method_2_code 10 = .ok (.iconst 0, 1) := by decide +kernel
theorem d2_11 : decode prog_13_method_2_code 11 = .ok (.istore 5, 2) := by decide +kernel
theorem d2_13 : decode prog_13_method_2_code 13 = .ok (.iload 5, 2) := by decide +kernel
theorem d2_15 : decode prog_13_method_2_code 15 = .ok (.iload 4, 2) := by decide +kernel
theorem d2_17 : decode prog_13_method_2_code 17 = .ok (.if_icmp .ge 31, 3) := by decide +kernel
theorem d2_48 : decode prog_13_method_2_code 48 = .ok (.lload_n 1, 1) := by decide +kernel
theorem d2_49 : decode prog_13_method_2_code 49 = .ok (.lreturn, 1) := by decide +kernel
theorem pn_0 : plainName "com/example/libakin/libakin/hash/Hashes" = true := by first | (simp [plainName, overriddenIn]; done) | decide +kernel
theorem ef_rm2_0 (m : MethodId) (y0 : Addr) : entryFrame m #[(.ref y0)] 7 = mkF m 0 #[.val (.ref y0), .unset, .unset, .unset, .unset, .unset, .unset] [] := by first | (simp [entryFrame, mkF, argsToLocals, Value.category]; done) | rfl
def Q2_0 (Z : State) (y0 : Addr) (kc : ClassId) (h0 : Heap) (n0 : Nat) (v : Option Value) (h : Heap) (L : List Loc) : Prop := v = some (.long (own_fnv [])) ∧ Fr n0 L ∧ h = h0
set_option maxRecDepth 65536 in
set_option maxHeartbeats 40000000 in
theorem rm2_0 (l : Launch) (Z : State) (a0 : Array Value) (hw : ∀ d ∈ tables_1, d.before a0 Z = true) (ws : List Jvm.Cond) (y0 : Addr) (kc : ClassId) (h0 : Heap) (n0 : Nat) (Z0 : n0 ≤ h0.size) (V_y0 : Arv Z h0 y0 kc .byte (0 : Int32) [] (.int (0 : Int32))) :
    MetFree l mn1 (head1 (Jvm.Cond.code mn1 prog_13_method_2_code 7 (some .long) :: ws) ({ frames := 0, cells := 0, slots := 0, locals := 0 } : Room)) (fun a U => a = #[(.ref y0)] ∧ Z.Warmed39 U.vm ∧ U.heap = h0) (fun _ _ _ _ _ => True) (fun _ U o U' => ∃ v L, o = .returned v ∧ Q2_0 Z y0 kc h0 n0 v U'.heap L ∧ FrameEnd U o U' L ({ frames := 0, cells := 0, slots := 0, locals := 0 } : Room).cells ({ frames := 0, cells := 0, slots := 0, locals := 0 } : Room).slots) := by
  refine MetFree.of_bodySF (plainFor_of_name pn_0) hisR ?_
  intro p e s m args below meth c s₁ Bd hml0 hP hK
  obtain ⟨rfl, hZ, hh⟩ := hP
  have hx := Bd.exec
  have hby := Bd.bytes
  have hml : c.maxLocals = 7 := hml0
  have hown : s.vm.findClass "com/example/libakin/libakin/hash/Hashes" = some m.cls := findClass_of_methodNamed Bd.named
  have hnm := (name_of_methodNamed Bd.named Bd.method).1
  have X0 : Stand p l e ({ frames := 0, cells := 0, slots := 0, locals := 0 } : Room) s m #[(.ref y0)] below meth c s₁ [] 0 0 := Stand.of_body Bd
  have e0 : s₁.heap = h0 := by rw [← hh, Bd.state]; rfl
  have N0 := Fr.nil n0
  show own_Ends p e below s (Q2_0 Z y0 kc h0 n0) _ _ s₁ _
  rw [ef_rm2_0 m y0]
  refine own_go (T' := s₁) (f' := (mkF m 8 #[.val (.ref y0), .val (.long (-3750763034362895579 : Int64)), .second, .val (.ref y0), .unset, .unset, .unset] [(.int (0 : Int32))])) (fun _ k => X0.ldc2Long hx hown (mvT hZ (ow10 hw)) (g := (mkF m 0 #[.val (.ref y0), .unset, .unset, .unset, .unset, .unset, .unset] [])) rfl (hb hby d2_0) _ (XS.lstoreN X0.here hx rfl (hb hby d2_3) rfl (l' := #[.val (.ref y0), .val (.long (-3750763034362895579 : Int64)), .second, .unset, .unset, .unset, .unset]) rfl (XS.aloadN X0.here hx rfl (hb hby d2_4) rfl rfl (XS.astoreN X0.here hx rfl (hb hby d2_5) rfl rfl (l' := #[.val (.ref y0), .val (.long (-3750763034362895579 : Int64)), .second, .val (.ref y0), .unset, .unset, .unset]) rfl (XS.aloadN X0.here hx rfl (hb hby d2_6) rfl rfl (own_alen X0 hx hZ e0 V_y0 rfl rfl (hb hby d2_7) k)))))) ?_
  refine own_go (T' := s₁) (f' := (mkF m 48 #[.val (.ref y0), .val (.long (-3750763034362895579 : Int64)), .second, .val (.ref y0), .val (.int (0 : Int32)), .val (.int (0 : Int32)), .unset] [])) (fun _ k => XS.istore X0.here hx rfl (hb hby d2_8) rfl (l' := #[.val (.ref y0), .val (.long (-3750763034362895579 : Int64)), .second, .val (.ref y0), .val (.int (0 : Int32)), .unset, .unset]) rfl (XS.iconst X0.here hx rfl (hb hby d2_10) (XS.istore X0.here hx rfl (hb hby d2_11) rfl (l' := #[.val (.ref y0), .val (.long (-3750763034362895579 : Int64)), .second, .val (.ref y0), .val (.int (0 : Int32)), .val (.int (0 : Int32)), .unset]) rfl (XS.iload X0.here hx rfl (hb hby d2_13) rfl (XS.iload X0.here hx rfl (hb hby d2_15) rfl (XS.icmpYes X0.here hx rfl (pc0 := 17) (pc' := 48) rfl (hb hby d2_17) rfl (flt (by decide : ¬ ((0 : Int32) < (0 : Int32)))).2.1 (by decide) (by decide) k)))))) ?_
  refine own_go (T' := s₁) (f' := (mkF m 49 #[.val (.ref y0), .val (.long (-3750763034362895579 : Int64)), .second, .val (.ref y0), .val (.int (0 : Int32)), .val (.int (0 : Int32)), .unset] [(.long (-3750763034362895579 : Int64))])) (fun _ k => XS.lloadN X0.here hx rfl (hb hby d2_48) rfl k) ?_
  refine own_ret X0 (v := some (.long (-3750763034362895579 : Int64))) (fun h => by rw [Bd.returns] at h; cases h) Bd.notSynchronized (fun fs hr => own_retL X0 hx Bd.returns (hb hby d2_49) hr) ?_ (by decide) (by decide)
  show Q2_0 Z y0 kc h0 n0 _ s₁.heap _
  exact ⟨rfl, N0, e0⟩
theorem d2_20 : decode prog_13_method_2_code 20 = .ok (.aload_n 3, 1) := by decide +kernel
theorem d2_21 : decode prog_13_method_2_code 21 = .ok (.iload 5, 2) := by decide +kernel
theorem d2_23 : decode prog_13_method_2_code 23 = .ok (.baload, 1) := by decide +kernel
theorem d2_24 : decode prog_13_method_2_code 24 = .ok (.istore 6, 2) := by decide +kernel
theorem d2_26 : decode prog_13_method_2_code 26 = .ok (.lload_n 1, 1) := by decide +kernel
theorem d2_27 : decode prog_13_method_2_code 27 = .ok (.iload 6, 2) := by decide +kernel
theorem d2_29 : decode prog_13_method_2_code 29 = .ok (.sipush 255, 3) := by decide +kernel
theorem d2_32 : decode prog_13_method_2_code 32 = .ok (.iand, 1) := by decide +kernel
theorem d2_33 : decode prog_13_method_2_code 33 = .ok (.i2l, 1) := by decide +kernel
theorem d2_34 : decode prog_13_method_2_code 34 = .ok (.lxor, 1) := by decide +kernel
theorem d2_35 : decode prog_13_method_2_code 35 = .ok (.lstore_n 1, 1) := by decide +kernel
theorem d2_36 : decode prog_13_method_2_code 36 = .ok (.lload_n 1, 1) := by decide +kernel
theorem d2_37 : decode prog_13_method_2_code 37 = .ok (.ldc2_w 11, 3) := by decide +kernel
theorem d2_40 : decode prog_13_method_2_code 40 = .ok (.lmul, 1) := by decide +kernel
theorem d2_41 : decode prog_13_method_2_code 41 = .ok (.lstore_n 1, 1) := by decide +kernel
theorem d2_42 : decode prog_13_method_2_code 42 = .ok (.iinc 5 1, 3) := by decide +kernel
theorem d2_45 : decode prog_13_method_2_code 45 = .ok (.goto (-32), 3) := by decide +kernel
theorem ef_rm2_1 (m : MethodId) (y0 : Addr) : entryFrame m #[(.ref y0)] 7 = mkF m 0 #[.val (.ref y0), .unset, .unset, .unset, .unset, .unset, .unset] [] := by first | (simp [entryFrame, mkF, argsToLocals, Value.category]; done) | rfl
def Q2_1 (Z : State) (y0 : Addr) (kc : ClassId) (ev0 : Int32) (h0 : Heap) (n0 : Nat) (v : Option Value) (h : Heap) (L : List Loc) : Prop := v = some (.long (own_fnv [ev0])) ∧ Fr n0 L ∧ h = h0
set_option maxRecDepth 65536 in
set_option maxHeartbeats 40000000 in
theorem rm2_1 (l : Launch) (Z : State) (a0 : Array Value) (hw : ∀ d ∈ tables_1, d.before a0 Z = true) (ws : List Jvm.Cond) (y0 : Addr) (kc : ClassId) (ev0 : Int32) (h0 : Heap) (n0 : Nat) (Z0 : n0 ≤ h0.size) (V_y0 : Arv Z h0 y0 kc .byte (1 : Int32) [(.int ev0)] (.int (0 : Int32))) :
    MetFree l mn1 (head1 (Jvm.Cond.code mn1 prog_13_method_2_code 7 (some .long) :: ws) ({ frames := 0, cells := 0, slots := 0, locals := 0 } : Room)) (fun a U => a = #[(.ref y0)] ∧ Z.Warmed39 U.vm ∧ U.heap = h0) (fun _ _ _ _ _ => True) (fun _ U o U' => ∃ v L, o = .returned v ∧ Q2_1 Z y0 kc ev0 h0 n0 v U'.heap L ∧ FrameEnd U o U' L ({ frames := 0, cells := 0, slots := 0, locals := 0 } : Room).cells ({ frames := 0, cells := 0, slots := 0, locals := 0 } : Room).slots) := by
  refine MetFree.of_bodySF (plainFor_of_name pn_0) hisR ?_
  intro p e s m args below meth c s₁ Bd hml0 hP hK
  obtain ⟨rfl, hZ, hh⟩ := hP
  have hx := Bd.exec
  have hby := Bd.bytes
  have hml : c.maxLocals = 7 := hml0
  have hown : s.vm.findClass "com/example/libakin/libakin/hash/Hashes" = some m.cls := findClass_of_methodNamed Bd.named
  have hnm := (name_of_methodNamed Bd.named Bd.method).1
  have X0 : Stand p l e ({ frames := 0, cells := 0, slots := 0, locals := 0 } : Room) s m #[(.ref y0)] below meth c s₁ [] 0 0 := Stand.of_body Bd
  have e0 : s₁.heap = h0 := by rw [← hh, Bd.state]; rfl
  have N0 := Fr.nil n0
  show own_Ends p e below s (Q2_1 Z y0 kc ev0 h0 n0) _ _ s₁ _
  rw [ef_rm2_1 m y0]
  refine own_go (T' := s₁) (f' := (mkF m 8 #[.val (.ref y0), .val (.long (-3750763034362895579 : Int64)), .second, .val (.ref y0), .unset, .unset, .unset] [(.int (1 : Int32))])) (fun _ k => X0.ldc2Long hx hown (mvT hZ (ow10 hw)) (g := (mkF m 0 #[.val (.ref y0), .unset, .unset, .unset, .unset, .unset, .unset] [])) rfl (hb hby d2_0) _ (XS.lstoreN X0.here hx rfl (hb hby d2_3) rfl (l' := #[.val (.ref y0), .val (.long (-3750763034362895579 : Int64)), .second, .unset, .unset, .unset, .unset]) rfl (XS.aloadN X0.here hx rfl (hb hby d2_4) rfl rfl (XS.astoreN X0.here hx rfl (hb hby d2_5) rfl rfl (l' := #[.val (.ref y0), .val (.long (-3750763034362895579 : Int64)), .second, .val (.ref y0), .unset, .unset, .unset]) rfl (XS.aloadN X0.here hx rfl (hb hby d2_6) rfl rfl (own_alen X0 hx hZ e0 V_y0 rfl rfl (hb hby d2_7) k)))))) ?_
  refine own_go (T' := s₁) (f' := (mkF m 20 #[.val (.ref y0), .val (.long (-3750763034362895579 : Int64)), .second, .val (.ref y0), .val (.int (1 : Int32)), .val (.int (0 : Int32)), .unset] [])) (fun _ k => XS.istore X0.here hx rfl (hb hby d2_8) rfl (l' := #[.val (.ref y0), .val (.long (-3750763034362895579 : Int64)), .second, .val (.ref y0), .val (.int (1 : Int32)), .unset, .unset]) rfl (XS.iconst X0.here hx rfl (hb hby d2_10) (XS.istore X0.here hx rfl (hb hby d2_11) rfl (l' := #[.val (.ref y0), .val (.long (-3750763034362895579 : Int64)), .second, .val (.ref y0), .val (.int (1 : Int32)), .val (.int (0 : Int32)), .unset]) rfl (XS.iload X0.here hx rfl (hb hby d2_13) rfl (XS.iload X0.here hx rfl (hb hby d2_15) rfl (XS.icmpNo X0.here hx rfl (hb hby d2_17) rfl (tlt (by decide : ((0 : Int32) < (1 : Int32)))).2.1 k)))))) ?_
  refine own_go (T' := s₁) (f' := (mkF m 29 #[.val (.ref y0), .val (.long (-3750763034362895579 : Int64)), .second, .val (.ref y0), .val (.int (1 : Int32)), .val (.int (0 : Int32)), .val (.int ev0)] [(.int ev0), (.long (-3750763034362895579 : Int64))])) (fun _ k => XS.aloadN X0.here hx rfl (hb hby d2_20) rfl rfl (XS.iload X0.here hx rfl (hb hby d2_21) rfl (own_ldB X0 hx hZ e0 V_y0 (j := (0 : Int32)) (x := ev0) ⟨by decide, by decide⟩ rfl rfl rfl (hb hby d2_23) (XS.istore X0.here hx rfl (hb hby d2_24) rfl (l' := #[.val (.ref y0), .val (.long (-3750763034362895579 : Int64)), .second, .val (.ref y0), .val (.int (1 : Int32)), .val (.int (0 : Int32)), .val (.int ev0)]) rfl (XS.lloadN X0.here hx rfl (hb hby d2_26) rfl (XS.iload X0.here hx rfl (hb hby d2_27) rfl k)))))) ?_
  refine own_go (T' := s₁) (f' := (mkF m 37 #[.val (.ref y0), .val (.long ((-3750763034362895579 : Int64) ^^^ ((ev0 &&& (255 : Int32)).toInt64))), .second, .val (.ref y0), .val (.int (1 : Int32)), .val (.int (0 : Int32)), .val (.int ev0)] [(.long ((-3750763034362895579 : Int64) ^^^ ((ev0 &&& (255 : Int32)).toInt64)))])) (fun _ k => XS.sipush X0.here hx rfl (hb hby d2_29) (XS.iand X0.here hx rfl (hb hby d2_32) rfl (XS.i2l X0.here hx rfl (hb hby d2_33) rfl (XS.lxor X0.here hx rfl (hb hby d2_34) rfl (XS.lstoreN X0.here hx rfl (hb hby d2_35) rfl (l' := #[.val (.ref y0), .val (.long ((-3750763034362895579 : Int64) ^^^ ((ev0 &&& (255 : Int32)).toInt64))), .second, .val (.ref y0), .val (.int (1 : Int32)), .val (.int (0 : Int32)), .val (.int ev0)]) rfl (XS.lloadN X0.here hx rfl (hb hby d2_36) rfl k)))))) ?_
  refine own_go (T' := s₁) (f' := (mkF m 15 #[.val (.ref y0), .val (.long (((-3750763034362895579 : Int64) ^^^ ((ev0 &&& (255 : Int32)).toInt64)) * (1099511628211 : Int64))), .second, .val (.ref y0), .val (.int (1 : Int32)), .val (.int (1 : Int32)), .val (.int ev0)] [(.int (1 : Int32))])) (fun _ k => X0.ldc2Long hx hown (mvT hZ (ow12 hw)) (g := (mkF m 37 #[.val (.ref y0), .val (.long ((-3750763034362895579 : Int64) ^^^ ((ev0 &&& (255 : Int32)).toInt64))), .second, .val (.ref y0), .val (.int (1 : Int32)), .val (.int (0 : Int32)), .val (.int ev0)] [(.long ((-3750763034362895579 : Int64) ^^^ ((ev0 &&& (255 : Int32)).toInt64)))])) rfl (hb hby d2_37) _ (XS.lmul X0.here hx rfl (hb hby d2_40) rfl (XS.lstoreN X0.here hx rfl (hb hby d2_41) rfl (l' := #[.val (.ref y0), .val (.long (((-3750763034362895579 : Int64) ^^^ ((ev0 &&& (255 : Int32)).toInt64)) * (1099511628211 : Int64))), .second, .val (.ref y0), .val (.int (1 : Int32)), .val (.int (0 : Int32)), .val (.int ev0)]) rfl (XS.iinc X0.here hx rfl (hb hby d2_42) rfl (l' := #[.val (.ref y0), .val (.long (((-3750763034362895579 : Int64) ^^^ ((ev0 &&& (255 : Int32)).toInt64)) * (1099511628211 : Int64))), .second, .val (.ref y0), .val (.int (1 : Int32)), .val (.int (1 : Int32)), .val (.int ev0)]) rfl (XS.goto X0.here hx rfl (pc0 := 45) (pc' := 13) rfl (hb hby d2_45) (by decide) (by decide) (XS.iload X0.here hx rfl (hb hby d2_13) rfl k)))))) ?_
  refine own_go (T' := s₁) (f' := (mkF m 49 #[.val (.ref y0), .val (.long (((-3750763034362895579 : Int64) ^^^ ((ev0 &&& (255 : Int32)).toInt64)) * (1099511628211 : Int64))), .second, .val (.ref y0), .val (.int (1 : Int32)), .val (.int (1 : Int32)), .val (.int ev0)] [(.long (((-3750763034362895579 : Int64) ^^^ ((ev0 &&& (255 : Int32)).toInt64)) * (1099511628211 : Int64)))])) (fun _ k => XS.iload X0.here hx rfl (hb hby d2_15) rfl (XS.icmpYes X0.here hx rfl (pc0 := 17) (pc' := 48) rfl (hb hby d2_17) rfl (flt (by decide : ¬ ((1 : Int32) < (1 : Int32)))).2.1 (by decide) (by decide) (XS.lloadN X0.here hx rfl (hb hby d2_48) rfl k))) ?_
  refine own_ret X0 (v := some (.long (((-3750763034362895579 : Int64) ^^^ ((ev0 &&& (255 : Int32)).toInt64)) * (1099511628211 : Int64)))) (fun h => by rw [Bd.returns] at h; cases h) Bd.notSynchronized (fun fs hr => own_retL X0 hx Bd.returns (hb hby d2_49) hr) ?_ (by decide) (by decide)
  show Q2_1 Z y0 kc ev0 h0 n0 _ s₁.heap _
  exact ⟨rfl, N0, e0⟩
theorem ef_rm2_2 (m : MethodId) (y0 : Addr) : entryFrame m #[(.ref y0)] 7 = mkF m 0 #[.val (.ref y0), .unset, .unset, .unset, .unset, .unset, .unset] [] := by first | (simp [entryFrame, mkF, argsToLocals, Value.category]; done) | rfl
def Q2_2 (Z : State) (y0 : Addr) (kc : ClassId) (ev0 : Int32) (ev1 : Int32) (h0 : Heap) (n0 : Nat) (v : Option Value) (h : Heap) (L : List Loc) : Prop := v = some (.long (own_fnv [ev0, ev1])) ∧ Fr n0 L ∧ h = h0
set_option maxRecDepth 65536 in
set_option maxHeartbeats 40000000 in
theorem rm2_2 (l : Launch) (Z : State) (a0 : Array Value) (hw : ∀ d ∈ tables_1, d.before a0 Z = true) (ws : List Jvm.Cond) (y0 : Addr) (kc : ClassId) (ev0 : Int32) (ev1 : Int32) (h0 : Heap) (n0 : Nat) (Z0 : n0 ≤ h0.size) (V_y0 : Arv Z h0 y0 kc .byte (2 : Int32) [(.int ev0), (.int ev1)] (.int (0 : Int32))) :
    MetFree l mn1 (head1 (Jvm.Cond.code mn1 prog_13_method_2_code 7 (some .long) :: ws) ({ frames := 0, cells := 0, slots := 0, locals := 0 } : Room)) (fun a U => a = #[(.ref y0)] ∧ Z.Warmed39 U.vm ∧ U.heap = h0) (fun _ _ _ _ _ => True) (fun _ U o U' => ∃ v L, o = .returned v ∧ Q2_2 Z y0 kc ev0 ev1 h0 n0 v U'.heap L ∧ FrameEnd U o U' L ({ frames := 0, cells := 0, slots := 0, locals := 0 } : Room).cells ({ frames := 0, cells := 0, slots := 0, locals := 0 } : Room).slots) := by
  refine MetFree.of_bodySF (plainFor_of_name pn_0) hisR ?_
  intro p e s m args below meth c s₁ Bd hml0 hP hK
  obtain ⟨rfl, hZ, hh⟩ := hP
  have hx := Bd.exec
  have hby := Bd.bytes
  have hml : c.maxLocals = 7 := hml0
  have hown : s.vm.findClass "com/example/libakin/libakin/hash/Hashes" = some m.cls := findClass_of_methodNamed Bd.named
  have hnm := (name_of_methodNamed Bd.named Bd.method).1
  have X0 : Stand p l e ({ frames := 0, cells := 0, slots := 0, locals := 0 } : Room) s m #[(.ref y0)] below meth c s₁ [] 0 0 := Stand.of_body Bd
  have e0 : s₁.heap = h0 := by rw [← hh, Bd.state]; rfl
  have N0 := Fr.nil n0
  show own_Ends p e below s (Q2_2 Z y0 kc ev0 ev1 h0 n0) _ _ s₁ _
  rw [ef_rm2_2 m y0]
  refine own_go (T' := s₁) (f' := (mkF m 8 #[.val (.ref y0), .val (.long (-3750763034362895579 : Int64)), .second, .val (.ref y0), .unset, .unset, .unset] [(.int (2 : Int32))])) (fun _ k => X0.ldc2Long hx hown (mvT hZ (ow10 hw)) (g := (mkF m 0 #[.val (.ref y0), .unset, .unset, .unset, .unset, .unset, .unset] [])) rfl (hb hby d2_0) _ (XS.lstoreN X0.here hx rfl (hb hby d2_3) rfl (l' := #[.val (.ref y0), .val (.long (-3750763034362895579 : Int64)), .second, .unset, .unset, .unset, .unset]) rfl (XS.aloadN X0.here hx rfl (hb hby d2_4) rfl rfl (XS.astoreN X0.here hx rfl (hb hby d2_5) rfl rfl (l' := #[.val (.ref y0), .val (.long (-3750763034362895579 : Int64)), .second, .val (.ref y0), .unset, .unset, .unset]) rfl (XS.aloadN X0.here hx rfl (hb hby d2_6) rfl rfl (own_alen X0 hx hZ e0 V_y0 rfl rfl (hb hby d2_7) k)))))) ?_
  refine own_go (T' := s₁) (f' := (mkF m 20 #[.val (.ref y0), .val (.long (-3750763034362895579 : Int64)), .second, .val (.ref y0), .val (.int (2 : Int32)), .val (.int (0 : Int32)), .unset] [])) (fun _ k => XS.istore X0.here hx rfl (hb hby d2_8) rfl (l' := #[.val (.ref y0), .val (.long (-3750763034362895579 : Int64)), .second, .val (.ref y0), .val (.int (2 : Int32)), .unset, .unset]) rfl (XS.iconst X0.here hx rfl (hb hby d2_10) (XS.istore X0.here hx rfl (hb hby d2_11) rfl (l' := #[.val (.ref y0), .val (.long (-3750763034362895579 : Int64)), .second, .val (.ref y0), .val (.int (2 : Int32)), .val (.int (0 : Int32)), .unset]) rfl (XS.iload X0.here hx rfl (hb hby d2_13) rfl (XS.iload X0.here hx rfl (hb hby d2_15) rfl (XS.icmpNo X0.here hx rfl (hb hby d2_17) rfl (tlt (by decide : ((0 : Int32) < (2 : Int32)))).2.1 k)))))) ?_
  refine own_go (T' := s₁) (f' := (mkF m 29 #[.val (.ref y0), .val (.long (-3750763034362895579 : Int64)), .second, .val (.ref y0), .val (.int (2 : Int32)), .val (.int (0 : Int32)), .val (.int ev0)] [(.int ev0), (.long (-3750763034362895579 : Int64))])) (fun _ k => XS.aloadN X0.here hx rfl (hb hby d2_20) rfl rfl (XS.iload X0.here hx rfl (hb hby d2_21) rfl (own_ldB X0 hx hZ e0 V_y0 (j := (0 : Int32)) (x := ev0) ⟨by decide, by decide⟩ rfl rfl rfl (hb hby d2_23) (XS.istore X0.here hx rfl (hb hby d2_24) rfl (l' := #[.val (.ref y0), .val (.long (-3750763034362895579 : Int64)), .second, .val (.ref y0), .val (.int (2 : Int32)), .val (.int (0 : Int32)), .val (.int ev0)]) rfl (XS.lloadN X0.here hx rfl (hb hby d2_26) rfl (XS.iload X0.here hx rfl (hb hby d2_27) rfl k)))))) ?_
  refine own_go (T' := s₁) (f' := (mkF m 37 #[.val (.ref y0), .val (.long ((-3750763034362895579 : Int64) ^^^ ((ev0 &&& (255 : Int32)).toInt64))), .second, .val (.ref y0), .val (.int (2 : Int32)), .val (.int (0 : Int32)), .val (.int ev0)] [(.long ((-3750763034362895579 : Int64) ^^^ ((ev0 &&& (255 : Int32)).toInt64)))])) (fun _ k => XS.sipush X0.here hx rfl (hb hby d2_29) (XS.iand X0.here hx rfl (hb hby d2_32) rfl (XS.i2l X0.here hx rfl (hb hby d2_33) rfl (XS.lxor X0.here hx rfl (hb hby d2_34) rfl (XS.lstoreN X0.here hx rfl (hb hby d2_35) rfl (l' := #[.val (.ref y0), .val (.long ((-3750763034362895579 : Int64) ^^^ ((ev0 &&& (255 : Int32)).toInt64))), .second, .val (.ref y0), .val (.int (2 : Int32)), .val (.int (0 : Int32)), .val (.int ev0)]) rfl (XS.lloadN X0.here hx rfl (hb hby d2_36) rfl k)))))) ?_
  refine own_go (T' := s₁) (f' := (mkF m 15 #[.val (.ref y0), .val (.long (((-3750763034362895579 : Int64) ^^^ ((ev0 &&& (255 : Int32)).toInt64)) * (1099511628211 : Int64))), .second, .val (.ref y0), .val (.int (2 : Int32)), .val (.int (1 : Int32)), .val (.int ev0)] [(.int (1 : Int32))])) (fun _ k => X0.ldc2Long hx hown (mvT hZ (ow12 hw)) (g := (mkF m 37 #[.val (.ref y0), .val (.long ((-3750763034362895579 : Int64) ^^^ ((ev0 &&& (255 : Int32)).toInt64))), .second, .val (.ref y0), .val (.int (2 : Int32)), .val (.int (0 : Int32)), .val (.int ev0)] [(.long ((-3750763034362895579 : Int64) ^^^ ((ev0 &&& (255 : Int32)).toInt64)))])) rfl (hb hby d2_37) _ (XS.lmul X0.here hx rfl (hb hby d2_40) rfl (XS.lstoreN X0.here hx rfl (hb hby d2_41) rfl (l' := #[.val (.ref y0), .val (.long (((-3750763034362895579 : Int64) ^^^ ((ev0 &&& (255 : Int32)).toInt64)) * (1099511628211 : Int64))), .second, .val (.ref y0), .val (.int (2 : Int32)), .val (.int (0 : Int32)), .val (.int ev0)]) rfl (XS.iinc X0.here hx rfl (hb hby d2_42) rfl (l' := #[.val (.ref y0), .val (.long (((-3750763034362895579 : Int64) ^^^ ((ev0 &&& (255 : Int32)).toInt64)) * (1099511628211 : Int64))), .second, .val (.ref y0), .val (.int (2 : Int32)), .val (.int (1 : Int32)), .val (.int ev0)]) rfl (XS.goto X0.here hx rfl (pc0 := 45) (pc' := 13) rfl (hb hby d2_45) (by decide) (by decide) (XS.iload X0.here hx rfl (hb hby d2_13) rfl k)))))) ?_
  refine own_go (T' := s₁) (f' := (mkF m 26 #[.val (.ref y0), .val (.long (((-3750763034362895579 : Int64) ^^^ ((ev0 &&& (255 : Int32)).toInt64)) * (1099511628211 : Int64))), .second, .val (.ref y0), .val (.int (2 : Int32)), .val (.int (1 : Int32)), .val (.int ev1)] [])) (fun _ k => XS.iload X0.here hx rfl (hb hby d2_15) rfl (XS.icmpNo X0.here hx rfl (hb hby d2_17) rfl (tlt (by decide : ((1 : Int32) < (2 : Int32)))).2.1 (XS.aloadN X0.here hx rfl (hb hby d2_20) rfl rfl (XS.iload X0.here hx rfl (hb hby d2_21) rfl (own_ldB X0 hx hZ e0 V_y0 (j := (1 : Int32)) (x := ev1) ⟨by decide, by decide⟩ rfl rfl rfl (hb hby d2_23) (XS.istore X0.here hx rfl (hb hby d2_24) rfl (l' := #[.val (.ref y0), .val (.long (((-3750763034362895579 : Int64) ^^^ ((ev0 &&& (255 : Int32)).toInt64)) * (1099511628211 : Int64))), .second, .val (.ref y0), .val (.int (2 : Int32)), .val (.int (1 : Int32)), .val (.int ev1)]) rfl k)))))) ?_
  refine own_go (T' := s₁) (f' := (mkF m 35 #[.val (.ref y0), .val (.long (((-3750763034362895579 : Int64) ^^^ ((ev0 &&& (255 : Int32)).toInt64)) * (1099511628211 : Int64))), .second, .val (.ref y0), .val (.int (2 : Int32)), .val (.int (1 : Int32)), .val (.int ev1)] [(.long ((((-3750763034362895579 : Int64) ^^^ ((ev0 &&& (255 : Int32)).toInt64)) * (1099511628211 : Int64)) ^^^ ((ev1 &&& (255 : Int32)).toInt64)))])) (fun _ k => XS.lloadN X0.here hx rfl (hb hby d2_26) rfl (XS.iload X0.here hx rfl (hb hby d2_27) rfl (XS.sipush X0.here hx rfl (hb hby d2_29) (XS.iand X0.here hx rfl (hb hby d2_32) rfl (XS.i2l X0.here hx rfl (hb hby d2_33) rfl (XS.lxor X0.here hx rfl (hb hby d2_34) rfl k)))))) ?_
  refine own_go (T' := s₁) (f' := (mkF m 45 #[.val (.ref y0), .val (.long (((((-3750763034362895579 : Int64) ^^^ ((ev0 &&& (255 : Int32)).toInt64)) * (1099511628211 : Int64)) ^^^ ((ev1 &&& (255 : Int32)).toInt64)) * (1099511628211 : Int64))), .second, .val (.ref y0), .val (.int (2 : Int32)), .val (.int (2 : Int32)), .val (.int ev1)] [])) (fun _ k => XS.lstoreN X0.here hx rfl (hb hby d2_35) rfl (l' := #[.val (.ref y0), .val (.long ((((-3750763034362895579 : Int64) ^^^ ((ev0 &&& (255 : Int32)).toInt64)) * (1099511628211 : Int64)) ^^^ ((ev1 &&& (255 : Int32)).toInt64))), .second, .val (.ref y0), .val (.int (2 : Int32)), .val (.int (1 : Int32)), .val (.int ev1)]) rfl (XS.lloadN X0.here hx rfl (hb hby d2_36) rfl (X0.ldc2Long hx hown (mvT hZ (ow12 hw)) (g := (mkF m 37 #[.val (.ref y0), .val (.long ((((-3750763034362895579 : Int64) ^^^ ((ev0 &&& (255 : Int32)).toInt64)) * (1099511628211 : Int64)) ^^^ ((ev1 &&& (255 : Int32)).toInt64))), .second, .val (.ref y0), .val (.int (2 : Int32)), .val (.int (1 : Int32)), .val (.int ev1)] [(.long ((((-3750763034362895579 : Int64) ^^^ ((ev0 &&& (255 : Int32)).toInt64)) * (1099511628211 : Int64)) ^^^ ((ev1 &&& (255 : Int32)).toInt64)))])) rfl (hb hby d2_37) _ (XS.lmul X0.here hx rfl (hb hby d2_40) rfl (XS.lstoreN X0.here hx rfl (hb hby d2_41) rfl (l' := #[.val (.ref y0), .val (.long (((((-3750763034362895579 : Int64) ^^^ ((ev0 &&& (255 : Int32)).toInt64)) * (1099511628211 : Int64)) ^^^ ((ev1 &&& (255 : Int32)).toInt64)) * (1099511628211 : Int64))), .second, .val (.ref y0), .val (.int (2 : Int32)), .val (.int (1 : Int32)), .val (.int ev1)]) rfl (XS.iinc X0.here hx rfl (hb hby d2_42) rfl (l' := #[.val (.ref y0), .val (.long (((((-3750763034362895579 : Int64) ^^^ ((ev0 &&& (255 : Int32)).toInt64)) * (1099511628211 : Int64)) ^^^ ((ev1 &&& (255 : Int32)).toInt64)) * (1099511628211 : Int64))), .second, .val (.ref y0), .val (.int (2 : Int32)), .val (.int (2 : Int32)), .val (.int ev1)]) rfl k)))))) ?_
  refine own_go (T' := s₁) (f' := (mkF m 49 #[.val (.ref y0), .val (.long (((((-3750763034362895579 : Int64) ^^^ ((ev0 &&& (255 : Int32)).toInt64)) * (1099511628211 : Int64)) ^^^ ((ev1 &&& (255 : Int32)).toInt64)) * (1099511628211 : Int64))), .second, .val (.ref y0), .val (.int (2 : Int32)), .val (.int (2 : Int32)), .val (.int ev1)] [(.long (((((-3750763034362895579 : Int64) ^^^ ((ev0 &&& (255 : Int32)).toInt64)) * (1099511628211 : Int64)) ^^^ ((ev1 &&& (255 : Int32)).toInt64)) * (1099511628211 : Int64)))])) (fun _ k => XS.goto X0.here hx rfl (pc0 := 45) (pc' := 13) rfl (hb hby d2_45) (by decide) (by decide) (XS.iload X0.here hx rfl (hb hby d2_13) rfl (XS.iload X0.here hx rfl (hb hby d2_15) rfl (XS.icmpYes X0.here hx rfl (pc0 := 17) (pc' := 48) rfl (hb hby d2_17) rfl (flt (by decide : ¬ ((2 : Int32) < (2 : Int32)))).2.1 (by decide) (by decide) (XS.lloadN X0.here hx rfl (hb hby d2_48) rfl k))))) ?_
  refine own_ret X0 (v := some (.long (((((-3750763034362895579 : Int64) ^^^ ((ev0 &&& (255 : Int32)).toInt64)) * (1099511628211 : Int64)) ^^^ ((ev1 &&& (255 : Int32)).toInt64)) * (1099511628211 : Int64)))) (fun h => by rw [Bd.returns] at h; cases h) Bd.notSynchronized (fun fs hr => own_retL X0 hx Bd.returns (hb hby d2_49) hr) ?_ (by decide) (by decide)
  show Q2_2 Z y0 kc ev0 ev1 h0 n0 _ s₁.heap _
  exact ⟨rfl, N0, e0⟩
theorem ef_rm2_3 (m : MethodId) (y0 : Addr) : entryFrame m #[(.ref y0)] 7 = mkF m 0 #[.val (.ref y0), .unset, .unset, .unset, .unset, .unset, .unset] [] := by first | (simp [entryFrame, mkF, argsToLocals, Value.category]; done) | rfl
def Q2_3 (Z : State) (y0 : Addr) (kc : ClassId) (ev0 : Int32) (ev1 : Int32) (ev2 : Int32) (h0 : Heap) (n0 : Nat) (v : Option Value) (h : Heap) (L : List Loc) : Prop := v = some (.long (own_fnv [ev0, ev1, ev2])) ∧ Fr n0 L ∧ h = h0
set_option maxRecDepth 65536 in
set_option maxHeartbeats 40000000 in
theorem rm2_3 (l : Launch) (Z : State) (a0 : Array Value) (hw : ∀ d ∈ tables_1, d.before a0 Z = true) (ws : List Jvm.Cond) (y0 : Addr) (kc : ClassId) (ev0 : Int32) (ev1 : Int32) (ev2 : Int32) (h0 : Heap) (n0 : Nat) (Z0 : n0 ≤ h0.size) (V_y0 : Arv Z h0 y0 kc .byte (3 : Int32) [(.int ev0), (.int ev1), (.int ev2)] (.int (0 : Int32))) :
    MetFree l mn1 (head1 (Jvm.Cond.code mn1 prog_13_method_2_code 7 (some .long) :: ws) ({ frames := 0, cells := 0, slots := 0, locals := 0 } : Room)) (fun a U => a = #[(.ref y0)] ∧ Z.Warmed39 U.vm ∧ U.heap = h0) (fun _ _ _ _ _ => True) (fun _ U o U' => ∃ v L, o = .returned v ∧ Q2_3 Z y0 kc ev0 ev1 ev2 h0 n0 v U'.heap L ∧ FrameEnd U o U' L ({ frames := 0, cells := 0, slots := 0, locals := 0 } : Room).cells ({ frames := 0, cells := 0, slots := 0, locals := 0 } : Room).slots) := by
  refine MetFree.of_bodySF (plainFor_of_name pn_0) hisR ?_
  intro p e s m args below meth c s₁ Bd hml0 hP hK
  obtain ⟨rfl, hZ, hh⟩ := hP
  have hx := Bd.exec
  have hby := Bd.bytes
  have hml : c.maxLocals = 7 := hml0
  have hown : s.vm.findClass "com/example/libakin/libakin/hash/Hashes" = some m.cls := findClass_of_methodNamed Bd.named
  have hnm := (name_of_methodNamed Bd.named Bd.method).1
  have X0 : Stand p l e ({ frames := 0, cells := 0, slots := 0, locals := 0 } : Room) s m #[(.ref y0)] below meth c s₁ [] 0 0 := Stand.of_body Bd
  have e0 : s₁.heap = h0 := by rw [← hh, Bd.state]; rfl
  have N0 := Fr.nil n0
  show own_Ends p e below s (Q2_3 Z y0 kc ev0 ev1 ev2 h0 n0) _ _ s₁ _
  rw [ef_rm2_3 m y0]
  refine own_go (T' := s₁) (f' := (mkF m 8 #[.val (.ref y0), .val (.long (-3750763034362895579 : Int64)), .second, .val (.ref y0), .unset, .unset, .unset] [(.int (3 : Int32))])) (fun _ k => X0.ldc2Long hx hown (mvT hZ (ow10 hw)) (g := (mkF m 0 #[.val (.ref y0), .unset, .unset, .unset, .unset, .unset, .unset] [])) rfl (hb hby d2_0) _ (XS.lstoreN X0.here hx rfl (hb hby d2_3) rfl (l' := #[.val (.ref y0), .val (.long (-3750763034362895579 : Int64)), .second, .unset, .unset, .unset, .unset]) rfl (XS.aloadN X0.here hx rfl (hb hby d2_4) rfl rfl (XS.astoreN X0.here hx rfl (hb hby d2_5) rfl rfl (l' := #[.val (.ref y0), .val (.long (-3750763034362895579 : Int64)), .second, .val (.ref y0), .unset, .unset, .unset]) rfl (XS.aloadN X0.here hx rfl (hb hby d2_6) rfl rfl (own_alen X0 hx hZ e0 V_y0 rfl rfl (hb hby d2_7) k)))))) ?_
  refine own_go (T' := s₁) (f' := (mkF m 20 #[.val (.ref y0), .val (.long (-3750763034362895579 : Int64)), .second, .val (.ref y0), .val (.int (3 : Int32)), .val (.int (0 : Int32)), .unset] [])) (fun _ k => XS.istore X0.here hx rfl (hb hby d2_8) rfl (l' := #[.val (.ref y0), .val (.long (-3750763034362895579 : Int64)), .second, .val (.ref y0), .val (.int (3 : Int32)), .unset, .unset]) rfl (XS.iconst X0.here hx rfl (hb hby d2_10) (XS.istore X0.here hx rfl (hb hby d2_11) rfl (l' := #[.val (.ref y0), .val (.long (-3750763034362895579 : Int64)), .second, .val (.ref y0), .val (.int (3 : Int32)), .val (.int (0 : Int32)), .unset]) rfl (XS.iload X0.here hx rfl (hb hby d2_13) rfl (XS.iload X0.here hx rfl (hb hby d2_15) rfl (XS.icmpNo X0.here hx rfl (hb hby d2_17) rfl (tlt (by decide : ((0 : Int32) < (3 : Int32)))).2.1 k)))))) ?_
  refine own_go (T' := s₁) (f' := (mkF m 29 #[.val (.ref y0), .val (.long (-3750763034362895579 : Int64)), .second, .val (.ref y0), .val (.int (3 : Int32)), .val (.int (0 : Int32)), .val (.int ev0)] [(.int ev0), (.long (-3750763034362895579 : Int64))])) (fun _ k => XS.aloadN X0.here hx rfl (hb hby d2_20) rfl rfl (XS.iload X0.here hx rfl (hb hby d2_21) rfl (own_ldB X0 hx hZ e0 V_y0 (j := (0 : Int32)) (x := ev0) ⟨by decide, by decide⟩ rfl rfl rfl (hb hby d2_23) (XS.istore X0.here hx rfl (hb hby d2_24) rfl (l' := #[.val (.ref y0), .val (.long (-3750763034362895579 : Int64)), .second, .val (.ref y0), .val (.int (3 : Int32)), .val (.int (0 : Int32)), .val (.int ev0)]) rfl (XS.lloadN X0.here hx rfl (hb hby d2_26) rfl (XS.iload X0.here hx rfl (hb hby d2_27) rfl k)))))) ?_
  refine own_go (T' := s₁) (f' := (mkF m 37 #[.val (.ref y0), .val (.long ((-3750763034362895579 : Int64) ^^^ ((ev0 &&& (255 : Int32)).toInt64))), .second, .val (.ref y0), .val (.int (3 : Int32)), .val (.int (0 : Int32)), .val (.int ev0)] [(.long ((-3750763034362895579 : Int64) ^^^ ((ev0 &&& (255 : Int32)).toInt64)))])) (fun _ k => XS.sipush X0.here hx rfl (hb hby d2_29) (XS.iand X0.here hx rfl (hb hby d2_32) rfl (XS.i2l X0.here hx rfl (hb hby d2_33) rfl (XS.lxor X0.here hx rfl (hb hby d2_34) rfl (XS.lstoreN X0.here hx rfl (hb hby d2_35) rfl (l' := #[.val (.ref y0), .val (.long ((-3750763034362895579 : Int64) ^^^ ((ev0 &&& (255 : Int32)).toInt64))), .second, .val (.ref y0), .val (.int (3 : Int32)), .val (.int (0 : Int32)), .val (.int ev0)]) rfl (XS.lloadN X0.here hx rfl (hb hby d2_36) rfl k)))))) ?_
  refine own_go (T' := s₁) (f' := (mkF m 15 #[.val (.ref y0), .val (.long (((-3750763034362895579 : Int64) ^^^ ((ev0 &&& (255 : Int32)).toInt64)) * (1099511628211 : Int64))), .second, .val (.ref y0), .val (.int (3 : Int32)), .val (.int (1 : Int32)), .val (.int ev0)] [(.int (1 : Int32))])) (fun _ k => X0.ldc2Long hx hown (mvT hZ (ow12 hw)) (g := (mkF m 37 #[.val (.ref y0), .val (.long ((-3750763034362895579 : Int64) ^^^ ((ev0 &&& (255 : Int32)).toInt64))), .second, .val (.ref y0), .val (.int (3 : Int32)), .val (.int (0 : Int32)), .val (.int ev0)] [(.long ((-3750763034362895579 : Int64) ^^^ ((ev0 &&& (255 : Int32)).toInt64)))])) rfl (hb hby d2_37) _ (XS.lmul X0.here hx rfl (hb hby d2_40) rfl (XS.lstoreN X0.here hx rfl (hb hby d2_41) rfl (l' := #[.val (.ref y0), .val (.long (((-3750763034362895579 : Int64) ^^^ ((ev0 &&& (255 : Int32)).toInt64)) * (1099511628211 : Int64))), .second, .val (.ref y0), .val (.int (3 : Int32)), .val (.int (0 : Int32)), .val (.int ev0)]) rfl (XS.iinc X0.here hx rfl (hb hby d2_42) rfl (l' := #[.val (.ref y0), .val (.long (((-3750763034362895579 : Int64) ^^^ ((ev0 &&& (255 : Int32)).toInt64)) * (1099511628211 : Int64))), .second, .val (.ref y0), .val (.int (3 : Int32)), .val (.int (1 : Int32)), .val (.int ev0)]) rfl (XS.goto X0.here hx rfl (pc0 := 45) (pc' := 13) rfl (hb hby d2_45) (by decide) (by decide) (XS.iload X0.here hx rfl (hb hby d2_13) rfl k)))))) ?_
  refine own_go (T' := s₁) (f' := (mkF m 26 #[.val (.ref y0), .val (.long (((-3750763034362895579 : Int64) ^^^ ((ev0 &&& (255 : Int32)).toInt64)) * (1099511628211 : Int64))), .second, .val (.ref y0), .val (.int (3 : Int32)), .val (.int (1 : Int32)), .val (.int ev1)] [])) (fun _ k => XS.iload X0.here hx rfl (hb hby d2_15) rfl (XS.icmpNo X0.here hx rfl (hb hby d2_17) rfl (tlt (by decide : ((1 : Int32) < (3 : Int32)))).2.1 (XS.aloadN X0.here hx rfl (hb hby d2_20) rfl rfl (XS.iload X0.here hx rfl (hb hby d2_21) rfl (own_ldB X0 hx hZ e0 V_y0 (j := (1 : Int32)) (x := ev1) ⟨by decide, by decide⟩ rfl rfl rfl (hb hby d2_23) (XS.istore X0.here hx rfl (hb hby d2_24) rfl (l' := #[.val (.ref y0), .val (.long (((-3750763034362895579 : Int64) ^^^ ((ev0 &&& (255 : Int32)).toInt64)) * (1099511628211 : Int64))), .second, .val (.ref y0), .val (.int (3 : Int32)), .val (.int (1 : Int32)), .val (.int ev1)]) rfl k)))))) ?_
  refine own_go (T' := s₁) (f' := (mkF m 35 #[.val (.ref y0), .val (.long (((-3750763034362895579 : Int64) ^^^ ((ev0 &&& (255 : Int32)).toInt64)) * (1099511628211 : Int64))), .second, .val (.ref y0), .val (.int (3 : Int32)), .val (.int (1 : Int32)), .val (.int ev1)] [(.long ((((-3750763034362895579 : Int64) ^^^ ((ev0 &&& (255 : Int32)).toInt64)) * (1099511628211 : Int64)) ^^^ ((ev1 &&& (255 : Int32)).toInt64)))])) (fun _ k => XS.lloadN X0.here hx rfl (hb hby d2_26) rfl (XS.iload X0.here hx rfl (hb hby d2_27) rfl (XS.sipush X0.here hx rfl (hb hby d2_29) (XS.iand X0.here hx rfl (hb hby d2_32) rfl (XS.i2l X0.here hx rfl (hb hby d2_33) rfl (XS.lxor X0.here hx rfl (hb hby d2_34) rfl k)))))) ?_
  refine own_go (T' := s₁) (f' := (mkF m 45 #[.val (.ref y0), .val (.long (((((-3750763034362895579 : Int64) ^^^ ((ev0 &&& (255 : Int32)).toInt64)) * (1099511628211 : Int64)) ^^^ ((ev1 &&& (255 : Int32)).toInt64)) * (1099511628211 : Int64))), .second, .val (.ref y0), .val (.int (3 : Int32)), .val (.int (2 : Int32)), .val (.int ev1)] [])) (fun _ k => XS.lstoreN X0.here hx rfl (hb hby d2_35) rfl (l' := #[.val (.ref y0), .val (.long ((((-3750763034362895579 : Int64) ^^^ ((ev0 &&& (255 : Int32)).toInt64)) * (1099511628211 : Int64)) ^^^ ((ev1 &&& (255 : Int32)).toInt64))), .second, .val (.ref y0), .val (.int (3 : Int32)), .val (.int (1 : Int32)), .val (.int ev1)]) rfl (XS.lloadN X0.here hx rfl (hb hby d2_36) rfl (X0.ldc2Long hx hown (mvT hZ (ow12 hw)) (g := (mkF m 37 #[.val (.ref y0), .val (.long ((((-3750763034362895579 : Int64) ^^^ ((ev0 &&& (255 : Int32)).toInt64)) * (1099511628211 : Int64)) ^^^ ((ev1 &&& (255 : Int32)).toInt64))), .second, .val (.ref y0), .val (.int (3 : Int32)), .val (.int (1 : Int32)), .val (.int ev1)] [(.long ((((-3750763034362895579 : Int64) ^^^ ((ev0 &&& (255 : Int32)).toInt64)) * (1099511628211 : Int64)) ^^^ ((ev1 &&& (255 : Int32)).toInt64)))])) rfl (hb hby d2_37) _ (XS.lmul X0.here hx rfl (hb hby d2_40) rfl (XS.lstoreN X0.here hx rfl (hb hby d2_41) rfl (l' := #[.val (.ref y0), .val (.long (((((-3750763034362895579 : Int64) ^^^ ((ev0 &&& (255 : Int32)).toInt64)) * (1099511628211 : Int64)) ^^^ ((ev1 &&& (255 : Int32)).toInt64)) * (1099511628211 : Int64))), .second, .val (.ref y0), .val (.int (3 : Int32)), .val (.int (1 : Int32)), .val (.int ev1)]) rfl (XS.iinc X0.here hx rfl (hb hby d2_42) rfl (l' := #[.val (.ref y0), .val (.long (((((-3750763034362895579 : Int64) ^^^ ((ev0 &&& (255 : Int32)).toInt64)) * (1099511628211 : Int64)) ^^^ ((ev1 &&& (255 : Int32)).toInt64)) * (1099511628211 : Int64))), .second, .val (.ref y0), .val (.int (3 : Int32)), .val (.int (2 : Int32)), .val (.int ev1)]) rfl k)))))) ?_
  refine own_go (T' := s₁) (f' := (mkF m 23 #[.val (.ref y0), .val (.long (((((-3750763034362895579 : Int64) ^^^ ((ev0 &&& (255 : Int32)).toInt64)) * (1099511628211 : Int64)) ^^^ ((ev1 &&& (255 : Int32)).toInt64)) * (1099511628211 : Int64))), .second, .val (.ref y0), .val (.int (3 : Int32)), .val (.int (2 : Int32)), .val (.int ev1)] [(.int (2 : Int32)), (.ref y0)])) (fun _ k => XS.goto X0.here hx rfl (pc0 := 45) (pc' := 13) rfl (hb hby d2_45) (by decide) (by decide) (XS.iload X0.here hx rfl (hb hby d2_13) rfl (XS.iload X0.here hx rfl (hb hby d2_15) rfl (XS.icmpNo X0.here hx rfl (hb hby d2_17) rfl (tlt (by decide : ((2 : Int32) < (3 : Int32)))).2.1 (XS.aloadN X0.here hx rfl (hb hby d2_20) rfl rfl (XS.iload X0.here hx rfl (hb hby d2_21) rfl k)))))) ?_
  refine own_go (T' := s₁) (f' := (mkF m 33 #[.val (.ref y0), .val (.long (((((-3750763034362895579 : Int64) ^^^ ((ev0 &&& (255 : Int32)).toInt64)) * (1099511628211 : Int64)) ^^^ ((ev1 &&& (255 : Int32)).toInt64)) * (1099511628211 : Int64))), .second, .val (.ref y0), .val (.int (3 : Int32)), .val (.int (2 : Int32)), .val (.int ev2)] [(.int (ev2 &&& (255 : Int32))), (.long (((((-3750763034362895579 : Int64) ^^^ ((ev0 &&& (255 : Int32)).toInt64)) * (1099511628211 : Int64)) ^^^ ((ev1 &&& (255 : Int32)).toInt64)) * (1099511628211 : Int64)))])) (fun _ k => own_ldB X0 hx hZ e0 V_y0 (j := (2 : Int32)) (x := ev2) ⟨by decide, by decide⟩ rfl rfl rfl (hb hby d2_23) (XS.istore X0.here hx rfl (hb hby d2_24) rfl (l' := #[.val (.ref y0), .val (.long (((((-3750763034362895579 : Int64) ^^^ ((ev0 &&& (255 : Int32)).toInt64)) * (1099511628211 : Int64)) ^^^ ((ev1 &&& (255 : Int32)).toInt64)) * (1099511628211 : Int64))), .second, .val (.ref y0), .val (.int (3 : Int32)), .val (.int (2 : Int32)), .val (.int ev2)]) rfl (XS.lloadN X0.here hx rfl (hb hby d2_26) rfl (XS.iload X0.here hx rfl (hb hby d2_27) rfl (XS.sipush X0.here hx rfl (hb hby d2_29) (XS.iand X0.here hx rfl (hb hby d2_32) rfl k)))))) ?_
  refine own_go (T' := s₁) (f' := (mkF m 41 #[.val (.ref y0), .val (.long ((((((-3750763034362895579 : Int64) ^^^ ((ev0 &&& (255 : Int32)).toInt64)) * (1099511628211 : Int64)) ^^^ ((ev1 &&& (255 : Int32)).toInt64)) * (1099511628211 : Int64)) ^^^ ((ev2 &&& (255 : Int32)).toInt64))), .second, .val (.ref y0), .val (.int (3 : Int32)), .val (.int (2 : Int32)), .val (.int ev2)] [(.long (((((((-3750763034362895579 : Int64) ^^^ ((ev0 &&& (255 : Int32)).toInt64)) * (1099511628211 : Int64)) ^^^ ((ev1 &&& (255 : Int32)).toInt64)) * (1099511628211 : Int64)) ^^^ ((ev2 &&& (255 : Int32)).toInt64)) * (1099511628211 : Int64)))])) (fun _ k => XS.i2l X0.here hx rfl (hb hby d2_33) rfl (XS.lxor X0.here hx rfl (hb hby d2_34) rfl (XS.lstoreN X0.here hx rfl (hb hby d2_35) rfl (l' := #[.val (.ref y0), .val (.long ((((((-3750763034362895579 : Int64) ^^^ ((ev0 &&& (255 : Int32)).toInt64)) * (1099511628211 : Int64)) ^^^ ((ev1 &&& (255 : Int32)).toInt64)) * (1099511628211 : Int64)) ^^^ ((ev2 &&& (255 : Int32)).toInt64))), .second, .val (.ref y0), .val (.int (3 : Int32)), .val (.int (2 : Int32)), .val (.int ev2)]) rfl (XS.lloadN X0.here hx rfl (hb hby d2_36) rfl (X0.ldc2Long hx hown (mvT hZ (ow12 hw)) (g := (mkF m 37 #[.val (.ref y0), .val (.long ((((((-3750763034362895579 : Int64) ^^^ ((ev0 &&& (255 : Int32)).toInt64)) * (1099511628211 : Int64)) ^^^ ((ev1 &&& (255 : Int32)).toInt64)) * (1099511628211 : Int64)) ^^^ ((ev2 &&& (255 : Int32)).toInt64))), .second, .val (.ref y0), .val (.int (3 : Int32)), .val (.int (2 : Int32)), .val (.int ev2)] [(.long ((((((-3750763034362895579 : Int64) ^^^ ((ev0 &&& (255 : Int32)).toInt64)) * (1099511628211 : Int64)) ^^^ ((ev1 &&& (255 : Int32)).toInt64)) * (1099511628211 : Int64)) ^^^ ((ev2 &&& (255 : Int32)).toInt64)))])) rfl (hb hby d2_37) _ (XS.lmul X0.here hx rfl (hb hby d2_40) rfl k)))))) ?_
  refine own_go (T' := s₁) (f' := (mkF m 48 #[.val (.ref y0), .val (.long (((((((-3750763034362895579 : Int64) ^^^ ((ev0 &&& (255 : Int32)).toInt64)) * (1099511628211 : Int64)) ^^^ ((ev1 &&& (255 : Int32)).toInt64)) * (1099511628211 : Int64)) ^^^ ((ev2 &&& (255 : Int32)).toInt64)) * (1099511628211 : Int64))), .second, .val (.ref y0), .val (.int (3 : Int32)), .val (.int (3 : Int32)), .val (.int ev2)] [])) (fun _ k => XS.lstoreN X0.here hx rfl (hb hby d2_41) rfl (l' := #[.val (.ref y0), .val (.long (((((((-3750763034362895579 : Int64) ^^^ ((ev0 &&& (255 : Int32)).toInt64)) * (1099511628211 : Int64)) ^^^ ((ev1 &&& (255 : Int32)).toInt64)) * (1099511628211 : Int64)) ^^^ ((ev2 &&& (255 : Int32)).toInt64)) * (1099511628211 : Int64))), .second, .val (.ref y0), .val (.int (3 : Int32)), .val (.int (2 : Int32)), .val (.int ev2)]) rfl (XS.iinc X0.here hx rfl (hb hby d2_42) rfl (l' := #[.val (.ref y0), .val (.long (((((((-3750763034362895579 : Int64) ^^^ ((ev0 &&& (255 : Int32)).toInt64)) * (1099511628211 : Int64)) ^^^ ((ev1 &&& (255 : Int32)).toInt64)) * (1099511628211 : Int64)) ^^^ ((ev2 &&& (255 : Int32)).toInt64)) * (1099511628211 : Int64))), .second, .val (.ref y0), .val (.int (3 : Int32)), .val (.int (3 : Int32)), .val (.int ev2)]) rfl (XS.goto X0.here hx rfl (pc0 := 45) (pc' := 13) rfl (hb hby d2_45) (by decide) (by decide) (XS.iload X0.here hx rfl (hb hby d2_13) rfl (XS.iload X0.here hx rfl (hb hby d2_15) rfl (XS.icmpYes X0.here hx rfl (pc0 := 17) (pc' := 48) rfl (hb hby d2_17) rfl (flt (by decide : ¬ ((3 : Int32) < (3 : Int32)))).2.1 (by decide) (by decide) k)))))) ?_
  refine own_go (T' := s₁) (f' := (mkF m 49 #[.val (.ref y0), .val (.long (((((((-3750763034362895579 : Int64) ^^^ ((ev0 &&& (255 : Int32)).toInt64)) * (1099511628211 : Int64)) ^^^ ((ev1 &&& (255 : Int32)).toInt64)) * (1099511628211 : Int64)) ^^^ ((ev2 &&& (255 : Int32)).toInt64)) * (1099511628211 : Int64))), .second, .val (.ref y0), .val (.int (3 : Int32)), .val (.int (3 : Int32)), .val (.int ev2)] [(.long (((((((-3750763034362895579 : Int64) ^^^ ((ev0 &&& (255 : Int32)).toInt64)) * (1099511628211 : Int64)) ^^^ ((ev1 &&& (255 : Int32)).toInt64)) * (1099511628211 : Int64)) ^^^ ((ev2 &&& (255 : Int32)).toInt64)) * (1099511628211 : Int64)))])) (fun _ k => XS.lloadN X0.here hx rfl (hb hby d2_48) rfl k) ?_
  refine own_ret X0 (v := some (.long (((((((-3750763034362895579 : Int64) ^^^ ((ev0 &&& (255 : Int32)).toInt64)) * (1099511628211 : Int64)) ^^^ ((ev1 &&& (255 : Int32)).toInt64)) * (1099511628211 : Int64)) ^^^ ((ev2 &&& (255 : Int32)).toInt64)) * (1099511628211 : Int64)))) (fun h => by rw [Bd.returns] at h; cases h) Bd.notSynchronized (fun fs hr => own_retL X0 hx Bd.returns (hb hby d2_49) hr) ?_ (by decide) (by decide)
  show Q2_3 Z y0 kc ev0 ev1 ev2 h0 n0 _ s₁.heap _
  exact ⟨rfl, N0, e0⟩
theorem ef_rm2_4 (m : MethodId) (y0 : Addr) : entryFrame m #[(.ref y0)] 7 = mkF m 0 #[.val (.ref y0), .unset, .unset, .unset, .unset, .unset, .unset] [] := by first | (simp [entryFrame, mkF, argsToLocals, Value.category]; done) | rfl
def Q2_4 (Z : State) (y0 : Addr) (kc : ClassId) (ev0 : Int32) (ev1 : Int32) (ev2 : Int32) (ev3 : Int32) (h0 : Heap) (n0 : Nat) (v : Option Value) (h : Heap) (L : List Loc) : Prop := v = some (.long (own_fnv [ev0, ev1, ev2, ev3])) ∧ Fr n0 L ∧ h = h0
set_option maxRecDepth 65536 in
set_option maxHeartbeats 40000000 in
theorem rm2_4 (l : Launch) (Z : State) (a0 : Array Value) (hw : ∀ d ∈ tables_1, d.before a0 Z = true) (ws : List Jvm.Cond) (y0 : Addr) (kc : ClassId) (ev0 : Int32) (ev1 : Int32) (ev2 : Int32) (ev3 : Int32) (h0 : Heap) (n0 : Nat) (Z0 : n0 ≤ h0.size) (V_y0 : Arv Z h0 y0 kc .byte (4 : Int32) [(.int ev0), (.int ev1), (.int ev2), (.int ev3)] (.int (0 : Int32))) :
    MetFree l mn1 (head1 (Jvm.Cond.code mn1 prog_13_method_2_code 7 (some .long) :: ws) ({ frames := 0, cells := 0, slots := 0, locals := 0 } : Room)) (fun a U => a = #[(.ref y0)] ∧ Z.Warmed39 U.vm ∧ U.heap = h0) (fun _ _ _ _ _ => True) (fun _ U o U' => ∃ v L, o = .returned v ∧ Q2_4 Z y0 kc ev0 ev1 ev2 ev3 h0 n0 v U'.heap L ∧ FrameEnd U o U' L ({ frames := 0, cells := 0, slots := 0, locals := 0 } : Room).cells ({ frames := 0, cells := 0, slots := 0, locals := 0 } : Room).slots) := by
  refine MetFree.of_bodySF (plainFor_of_name pn_0) hisR ?_
  intro p e s m args below meth c s₁ Bd hml0 hP hK
  obtain ⟨rfl, hZ, hh⟩ := hP
  have hx := Bd.exec
  have hby := Bd.bytes
  have hml : c.maxLocals = 7 := hml0
  have hown : s.vm.findClass "com/example/libakin/libakin/hash/Hashes" = some m.cls := findClass_of_methodNamed Bd.named
  have hnm := (name_of_methodNamed Bd.named Bd.method).1
  have X0 : Stand p l e ({ frames := 0, cells := 0, slots := 0, locals := 0 } : Room) s m #[(.ref y0)] below meth c s₁ [] 0 0 := Stand.of_body Bd
  have e0 : s₁.heap = h0 := by rw [← hh, Bd.state]; rfl
  have N0 := Fr.nil n0
  show own_Ends p e below s (Q2_4 Z y0 kc ev0 ev1 ev2 ev3 h0 n0) _ _ s₁ _
  rw [ef_rm2_4 m y0]
  refine own_go (T' := s₁) (f' := (mkF m 8 #[.val (.ref y0), .val (.long (-3750763034362895579 : Int64)), .second, .val (.ref y0), .unset, .unset, .unset] [(.int (4 : Int32))])) (fun _ k => X0.ldc2Long hx hown (mvT hZ (ow10 hw)) (g := (mkF m 0 #[.val (.ref y0), .unset, .unset, .unset, .unset, .unset, .unset] [])) rfl (hb hby d2_0) _ (XS.lstoreN X0.here hx rfl (hb hby d2_3) rfl (l' := #[.val (.ref y0), .val (.long (-3750763034362895579 : Int64)), .second, .unset, .unset, .unset, .unset]) rfl (XS.aloadN X0.here hx rfl (hb hby d2_4) rfl rfl (XS.astoreN X0.here hx rfl (hb hby d2_5) rfl rfl (l' := #[.val (.ref y0), .val (.long (-3750763034362895579 : Int64)), .second, .val (.ref y0), .unset, .unset, .unset]) rfl (XS.aloadN X0.here hx rfl (hb hby d2_6) rfl rfl (own_alen X0 hx hZ e0 V_y0 rfl rfl (hb hby d2_7) k)))))) ?_
  refine own_go (T' := s₁) (f' := (mkF m 20 #[.val (.ref y0), .val (.long (-3750763034362895579 : Int64)), .second, .val (.ref y0), .val (.int (4 : Int32)), .val (.int (0 : Int32)), .unset] [])) (fun _ k => XS.istore X0.here hx rfl (hb hby d2_8) rfl (l' := #[.val (.ref y0), .val (.long (-3750763034362895579 : Int64)), .second, .val (.ref y0), .val (.int (4 : Int32)), .unset, .unset]) rfl (XS.iconst X0.here hx rfl (hb hby d2_10) (XS.istore X0.here hx rfl (hb hby d2_11) rfl (l' := #[.val (.ref y0), .val (.long (-3750763034362895579 : Int64)), .second, .val (.ref y0), .val (.int (4 : Int32)), .val (.int (0 : Int32)), .unset]) rfl (XS.iload X0.here hx rfl (hb hby d2_13) rfl (XS.iload X0.here hx rfl (hb hby d2_15) rfl (XS.icmpNo X0.here hx rfl (hb hby d2_17) rfl (tlt (by decide : ((0 : Int32) < (4 : Int32)))).2.1 k)))))) ?_
  refine own_go (T' := s₁) (f' := (mkF m 29 #[.val (.ref y0), .val (.long (-3750763034362895579 : Int64)), .second, .val (.ref y0), .val (.int (4 : Int32)), .val (.int (0 : Int32)), .val (.int ev0)] [(.int ev0), (.long (-3750763034362895579 : Int64))])) (fun _ k => XS.aloadN X0.here hx rfl (hb hby d2_20) rfl rfl (XS.iload X0.here hx rfl (hb hby d2_21) rfl (own_ldB X0 hx hZ e0 V_y0 (j := (0 : Int32)) (x := ev0) ⟨by decide, by decide⟩ rfl rfl rfl (hb hby d2_23) (XS.istore X0.here hx rfl (hb hby d2_24) rfl (l' := #[.val (.ref y0), .val (.long (-3750763034362895579 : Int64)), .second, .val (.ref y0), .val (.int (4 : Int32)), .val (.int (0 : Int32)), .val (.int ev0)]) rfl (XS.lloadN X0.here hx rfl (hb hby d2_26) rfl (XS.iload X0.here hx rfl (hb hby d2_27) rfl k)))))) ?_
  refine own_go (T' := s₁) (f' := (mkF m 37 #[.val (.ref y0), .val (.long ((-3750763034362895579 : Int64) ^^^ ((ev0 &&& (255 : Int32)).toInt64))), .second, .val (.ref y0), .val (.int (4 : Int32)), .val (.int (0 : Int32)), .val (.int ev0)] [(.long ((-3750763034362895579 : Int64) ^^^ ((ev0 &&& (255 : Int32)).toInt64)))])) (fun _ k => XS.sipush X0.here hx rfl (hb hby d2_29) (XS.iand X0.here hx rfl (hb hby d2_32) rfl (XS.i2l X0.here hx rfl (hb hby d2_33) rfl (XS.lxor X0.here hx rfl (hb hby d2_34) rfl (XS.lstoreN X0.here hx rfl (hb hby d2_35) rfl (l' := #[.val (.ref y0), .val (.long ((-3750763034362895579 : Int64) ^^^ ((ev0 &&& (255 : Int32)).toInt64))), .second, .val (.ref y0), .val (.int (4 : Int32)), .val (.int (0 : Int32)), .val (.int ev0)]) rfl (XS.lloadN X0.here hx rfl (hb hby d2_36) rfl k)))))) ?_
  refine own_go (T' := s₁) (f' := (mkF m 15 #[.val (.ref y0), .val (.long (((-3750763034362895579 : Int64) ^^^ ((ev0 &&& (255 : Int32)).toInt64)) * (1099511628211 : Int64))), .second, .val (.ref y0), .val (.int (4 : Int32)), .val (.int (1 : Int32)), .val (.int ev0)] [(.int (1 : Int32))])) (fun _ k => X0.ldc2Long hx hown (mvT hZ (ow12 hw)) (g := (mkF m 37 #[.val (.ref y0), .val (.long ((-3750763034362895579 : Int64) ^^^ ((ev0 &&& (255 : Int32)).toInt64))), .second, .val (.ref y0), .val (.int (4 : Int32)), .val (.int (0 : Int32)), .val (.int ev0)] [(.long ((-3750763034362895579 : Int64) ^^^ ((ev0 &&& (255 : Int32)).toInt64)))])) rfl (hb hby d2_37) _ (XS.lmul X0.here hx rfl (hb hby d2_40) rfl (XS.lstoreN X0.here hx rfl (hb hby d2_41) rfl (l' := #[.val (.ref y0), .val (.long (((-3750763034362895579 : Int64) ^^^ ((ev0 &&& (255 : Int32)).toInt64)) * (1099511628211 : Int64))), .second, .val (.ref y0), .val (.int (4 : Int32)), .val (.int (0 : Int32)), .val (.int ev0)]) rfl (XS.iinc X0.here hx rfl (hb hby d2_42) rfl (l' := #[.val (.ref y0), .val (.long (((-3750763034362895579 : Int64) ^^^ ((ev0 &&& (255 : Int32)).toInt64)) * (1099511628211 : Int64))), .second, .val (.ref y0), .val (.int (4 : Int32)), .val (.int (1 : Int32)), .val (.int ev0)]) rfl (XS.goto X0.here hx rfl (pc0 := 45) (pc' := 13) rfl (hb hby d2_45) (by decide) (by decide) (XS.iload X0.here hx rfl (hb hby d2_13) rfl k)))))) ?_
  refine own_go (T' := s₁) (f' := (mkF m 26 #[.val (.ref y0), .val (.long (((-3750763034362895579 : Int64) ^^^ ((ev0 &&& (255 : Int32)).toInt64)) * (1099511628211 : Int64))), .second, .val (.ref y0), .val (.int (4 : Int32)), .val (.int (1 : Int32)), .val (.int ev1)] [])) (fun _ k => XS.iload X0.here hx rfl (hb hby d2_15) rfl (XS.icmpNo X0.here hx rfl (hb hby d2_17) rfl (tlt (by decide : ((1 : Int32) < (4 : Int32)))).2.1 (XS.aloadN X0.here hx rfl (hb hby d2_20) rfl rfl (XS.iload X0.here hx rfl (hb hby d2_21) rfl (own_ldB X0 hx hZ e0 V_y0 (j := (1 : Int32)) (x := ev1) ⟨by decide, by decide⟩ rfl rfl rfl (hb hby d2_23) (XS.istore X0.here hx rfl (hb hby d2_24) rfl (l' := #[.val (.ref y0), .val (.long (((-3750763034362895579 : Int64) ^^^ ((ev0 &&& (255 : Int32)).toInt64)) * (1099511628211 : Int64))), .second, .val (.ref y0), .val (.int (4 : Int32)), .val (.int (1 : Int32)), .val (.int ev1)]) rfl k)))))) ?_
  refine own_go (T' := s₁) (f' := (mkF m 35 #[.val (.ref y0), .val (.long (((-3750763034362895579 : Int64) ^^^ ((ev0 &&& (255 : Int32)).toInt64)) * (1099511628211 : Int64))), .second, .val (.ref y0), .val (.int (4 : Int32)), .val (.int (1 : Int32)), .val (.int ev1)] [(.long ((((-3750763034362895579 : Int64) ^^^ ((ev0 &&& (255 : Int32)).toInt64)) * (1099511628211 : Int64)) ^^^ ((ev1 &&& (255 : Int32)).toInt64)))])) (fun _ k => XS.lloadN X0.here hx rfl (hb hby d2_26) rfl (XS.iload X0.here hx rfl (hb hby d2_27) rfl (XS.sipush X0.here hx rfl (hb hby d2_29) (XS.iand X0.here hx rfl (hb hby d2_32) rfl (XS.i2l X0.here hx rfl (hb hby d2_33) rfl (XS.lxor X0.here hx rfl (hb hby d2_34) rfl k)))))) ?_
  refine own_go (T' := s₁) (f' := (mkF m 45 #[.val (.ref y0), .val (.long (((((-3750763034362895579 : Int64) ^^^ ((ev0 &&& (255 : Int32)).toInt64)) * (1099511628211 : Int64)) ^^^ ((ev1 &&& (255 : Int32)).toInt64)) * (1099511628211 : Int64))), .second, .val (.ref y0), .val (.int (4 : Int32)), .val (.int (2 : Int32)), .val (.int ev1)] [])) (fun _ k => XS.lstoreN X0.here hx rfl (hb hby d2_35) rfl (l' := #[.val (.ref y0), .val (.long ((((-3750763034362895579 : Int64) ^^^ ((ev0 &&& (255 : Int32)).toInt64)) * (1099511628211 : Int64)) ^^^ ((ev1 &&& (255 : Int32)).toInt64))), .second, .val (.ref y0), .val (.int (4 : Int32)), .val (.int (1 : Int32)), .val (.int ev1)]) rfl (XS.lloadN X0.here hx rfl (hb hby d2_36) rfl (X0.ldc2Long hx hown (mvT hZ (ow12 hw)) (g := (mkF m 37 #[.val (.ref y0), .val (.long ((((-3750763034362895579 : Int64) ^^^ ((ev0 &&& (255 : Int32)).toInt64)) * (1099511628211 : Int64)) ^^^ ((ev1 &&& (255 : Int32)).toInt64))), .second, .val (.ref y0), .val (.int (4 : Int32)), .val (.int (1 : Int32)), .val (.int ev1)] [(.long ((((-3750763034362895579 : Int64) ^^^ ((ev0 &&& (255 : Int32)).toInt64)) * (1099511628211 : Int64)) ^^^ ((ev1 &&& (255 : Int32)).toInt64)))])) rfl (hb hby d2_37) _ (XS.lmul X0.here hx rfl (hb hby d2_40) rfl (XS.lstoreN X0.here hx rfl (hb hby d2_41) rfl (l' := #[.val (.ref y0), .val (.long (((((-3750763034362895579 : Int64) ^^^ ((ev0 &&& (255 : Int32)).toInt64)) * (1099511628211 : Int64)) ^^^ ((ev1 &&& (255 : Int32)).toInt64)) * (1099511628211 : Int64))), .second, .val (.ref y0), .val (.int (4 : Int32)), .val (.int (1 : Int32)), .val (.int ev1)]) rfl (XS.iinc X0.here hx rfl (hb hby d2_42) rfl (l' := #[.val (.ref y0), .val (.long (((((-3750763034362895579 : Int64) ^^^ ((ev0 &&& (255 : Int32)).toInt64)) * (1099511628211 : Int64)) ^^^ ((ev1 &&& (255 : Int32)).toInt64)) * (1099511628211 : Int64))), .second, .val (.ref y0), .val (.int (4 : Int32)), .val (.int (2 : Int32)), .val (.int ev1)]) rfl k)))))) ?_
  refine own_go (T' := s₁) (f' := (mkF m 23 #[.val (.ref y0), .val (.long (((((-3750763034362895579 : Int64) ^^^ ((ev0 &&& (255 : Int32)).toInt64)) * (1099511628211 : Int64)) ^^^ ((ev1 &&& (255 : Int32)).toInt64)) * (1099511628211 : Int64))), .second, .val (.ref y0), .val (.int (4 : Int32)), .val (.int (2 : Int32)), .val (.int ev1)] [(.int (2 : Int32)), (.ref y0)])) (fun _ k => XS.goto X0.here hx rfl (pc0 := 45) (pc' := 13) rfl (hb hby d2_45) (by decide) (by decide) (XS.iload X0.here hx rfl (hb hby d2_13) rfl (XS.iload X0.here hx rfl (hb hby d2_15) rfl (XS.icmpNo X0.here hx rfl (hb hby d2_17) rfl (tlt (by decide : ((2 : Int32) < (4 : Int32)))).2.1 (XS.aloadN X0.here hx rfl (hb hby d2_20) rfl rfl (XS.iload X0.here hx rfl (hb hby d2_21) rfl k)))))) ?_
  refine own_go (T' := s₁) (f' := (mkF m 33 #[.val (.ref y0), .val (.long (((((-3750763034362895579 : Int64) ^^^ ((ev0 &&& (255 : Int32)).toInt64)) * (1099511628211 : Int64)) ^^^ ((ev1 &&& (255 : Int32)).toInt64)) * (1099511628211 : Int64))), .second, .val (.ref y0), .val (.int (4 : Int32)), .val (.int (2 : Int32)), .val (.int ev2)] [(.int (ev2 &&& (255 : Int32))), (.long (((((-3750763034362895579 : Int64) ^^^ ((ev0 &&& (255 : Int32)).toInt64)) * (1099511628211 : Int64)) ^^^ ((ev1 &&& (255 : Int32)).toInt64)) * (1099511628211 : Int64)))])) (fun _ k => own_ldB X0 hx hZ e0 V_y0 (j := (2 : Int32)) (x := ev2) ⟨by decide, by decide⟩ rfl rfl rfl (hb hby d2_23) (XS.istore X0.here hx rfl (hb hby d2_24) rfl (l' := #[.val (.ref y0), .val (.long (((((-3750763034362895579 : Int64) ^^^ ((ev0 &&& (255 : Int32)).toInt64)) * (1099511628211 : Int64)) ^^^ ((ev1 &&& (255 : Int32)).toInt64)) * (1099511628211 : Int64))), .second, .val (.ref y0), .val (.int (4 : Int32)), .val (.int (2 : Int32)), .val (.int ev2)]) rfl (XS.lloadN X0.here hx rfl (hb hby d2_26) rfl (XS.iload X0.here hx rfl (hb hby d2_27) rfl (XS.sipush X0.here hx rfl (hb hby d2_29) (XS.iand X0.here hx rfl (hb hby d2_32) rfl k)))))) ?_
  refine own_go (T' := s₁) (f' := (mkF m 41 #[.val (.ref y0), .val (.long ((((((-3750763034362895579 : Int64) ^^^ ((ev0 &&& (255 : Int32)).toInt64)) * (1099511628211 : Int64)) ^^^ ((ev1 &&& (255 : Int32)).toInt64)) * (1099511628211 : Int64)) ^^^ ((ev2 &&& (255 : Int32)).toInt64))), .second, .val (.ref y0), .val (.int (4 : Int32)), .val (.int (2 : Int32)), .val (.int ev2)] [(.long (((((((-3750763034362895579 : Int64) ^^^ ((ev0 &&& (255 : Int32)).toInt64)) * (1099511628211 : Int64)) ^^^ ((ev1 &&& (255 : Int32)).toInt64)) * (1099511628211 : Int64)) ^^^ ((ev2 &&& (255 : Int32)).toInt64)) * (1099511628211 : Int64)))])) (fun _ k => XS.i2l X0.here hx rfl (hb hby d2_33) rfl (XS.lxor X0.here hx rfl (hb hby d2_34) rfl (XS.lstoreN X0.here hx rfl (hb hby d2_35) rfl (l' := #[.val (.ref y0), .val (.long ((((((-3750763034362895579 : Int64) ^^^ ((ev0 &&& (255 : Int32)).toInt64)) * (1099511628211 : Int64)) ^^^ ((ev1 &&& (255 : Int32)).toInt64)) * (1099511628211 : Int64)) ^^^ ((ev2 &&& (255 : Int32)).toInt64))), .second, .val (.ref y0), .val (.int (4 : Int32)), .val (.int (2 : Int32)), .val (.int ev2)]) rfl (XS.lloadN X0.here hx rfl (hb hby d2_36) rfl (X0.ldc2Long hx hown (mvT hZ (ow12 hw)) (g := (mkF m 37 #[.val (.ref y0), .val (.long ((((((-3750763034362895579 : Int64) ^^^ ((ev0 &&& (255 : Int32)).toInt64)) * (1099511628211 : Int64)) ^^^ ((ev1 &&& (255 : Int32)).toInt64)) * (1099511628211 : Int64)) ^^^ ((ev2 &&& (255 : Int32)).toInt64))), .second, .val (.ref y0), .val (.int (4 : Int32)), .val (.int (2 : Int32)), .val (.int ev2)] [(.long ((((((-3750763034362895579 : Int64) ^^^ ((ev0 &&& (255 : Int32)).toInt64)) * (1099511628211 : Int64)) ^^^ ((ev1 &&& (255 : Int32)).toInt64)) * (1099511628211 : Int64)) ^^^ ((ev2 &&& (255 : Int32)).toInt64)))])) rfl (hb hby d2_37) _ (XS.lmul X0.here hx rfl (hb hby d2_40) rfl k)))))) ?_
  refine own_go (T' := s₁) (f' := (mkF m 20 #[.val (.ref y0), .val (.long (((((((-3750763034362895579 : Int64) ^^^ ((ev0 &&& (255 : Int32)).toInt64)) * (1099511628211 : Int64)) ^^^ ((ev1 &&& (255 : Int32)).toInt64)) * (1099511628211 : Int64)) ^^^ ((ev2 &&& (255 : Int32)).toInt64)) * (1099511628211 : Int64))), .second, .val (.ref y0), .val (.int (4 : Int32)), .val (.int (3 : Int32)), .val (.int ev2)] [])) (fun _ k => XS.lstoreN X0.here hx rfl (hb hby d2_41) rfl (l' := #[.val (.ref y0), .val (.long (((((((-3750763034362895579 : Int64) ^^^ ((ev0 &&& (255 : Int32)).toInt64)) * (1099511628211 : Int64)) ^^^ ((ev1 &&& (255 : Int32)).toInt64)) * (1099511628211 : Int64)) ^^^ ((ev2 &&& (255 : Int32)).toInt64)) * (1099511628211 : Int64))), .second, .val (.ref y0), .val (.int (4 : Int32)), .val (.int (2 : Int32)), .val (.int ev2)]) rfl (XS.iinc X0.here hx rfl (hb hby d2_42) rfl (l' := #[.val (.ref y0), .val (.long (((((((-3750763034362895579 : Int64) ^^^ ((ev0 &&& (255 : Int32)).toInt64)) * (1099511628211 : Int64)) ^^^ ((ev1 &&& (255 : Int32)).toInt64)) * (1099511628211 : Int64)) ^^^ ((ev2 &&& (255 : Int32)).toInt64)) * (1099511628211 : Int64))), .second, .val (.ref y0), .val (.int (4 : Int32)), .val (.int (3 : Int32)), .val (.int ev2)]) rfl (XS.goto X0.here hx rfl (pc0 := 45) (pc' := 13) rfl (hb hby d2_45) (by decide) (by decide) (XS.iload X0.here hx rfl (hb hby d2_13) rfl (XS.iload X0.here hx rfl (hb hby d2_15) rfl (XS.icmpNo X0.here hx rfl (hb hby d2_17) rfl (tlt (by decide : ((3 : Int32) < (4 : Int32)))).2.1 k)))))) ?_
  refine own_go (T' := s₁) (f' := (mkF m 29 #[.val (.ref y0), .val (.long (((((((-3750763034362895579 : Int64) ^^^ ((ev0 &&& (255 : Int32)).toInt64)) * (1099511628211 : Int64)) ^^^ ((ev1 &&& (255 : Int32)).toInt64)) * (1099511628211 : Int64)) ^^^ ((ev2 &&& (255 : Int32)).toInt64)) * (1099511628211 : Int64))), .second, .val (.ref y0), .val (.int (4 : Int32)), .val (.int (3 : Int32)), .val (.int ev3)] [(.int ev3), (.long (((((((-3750763034362895579 : Int64) ^^^ ((ev0 &&& (255 : Int32)).toInt64)) * (1099511628211 : Int64)) ^^^ ((ev1 &&& (255 : Int32)).toInt64)) * (1099511628211 : Int64)) ^^^ ((ev2 &&& (255 : Int32)).toInt64)) * (1099511628211 : Int64)))])) (fun _ k => XS.aloadN X0.here hx rfl (hb hby d2_20) rfl rfl (XS.iload X0.here hx rfl (hb hby d2_21) rfl (own_ldB X0 hx hZ e0 V_y0 (j := (3 : Int32)) (x := ev3) ⟨by decide, by decide⟩ rfl rfl rfl (hb hby d2_23) (XS.istore X0.here hx rfl (hb hby d2_24) rfl (l' := #[.val (.ref y0), .val (.long (((((((-3750763034362895579 : Int64) ^^^ ((ev0 &&& (255 : Int32)).toInt64)) * (1099511628211 : Int64)) ^^^ ((ev1 &&& (255 : Int32)).toInt64)) * (1099511628211 : Int64)) ^^^ ((ev2 &&& (255 : Int32)).toInt64)) * (1099511628211 : Int64))), .second, .val (.ref y0), .val (.int (4 : Int32)), .val (.int (3 : Int32)), .val (.int ev3)]) rfl (XS.lloadN X0.here hx rfl (hb hby d2_26) rfl (XS.iload X0.here hx rfl (hb hby d2_27) rfl k)))))) ?_
  refine own_go (T' := s₁) (f' := (mkF m 37 #[.val (.ref y0), .val (.long ((((((((-3750763034362895579 : Int64) ^^^ ((ev0 &&& (255 : Int32)).toInt64)) * (1099511628211 : Int64)) ^^^ ((ev1 &&& (255 : Int32)).toInt64)) * (1099511628211 : Int64)) ^^^ ((ev2 &&& (255 : Int32)).toInt64)) * (1099511628211 : Int64)) ^^^ ((ev3 &&& (255 : Int32)).toInt64))), .second, .val (.ref y0), .val (.int (4 : Int32)), .val (.int (3 : Int32)), .val (.int ev3)] [(.long ((((((((-3750763034362895579 : Int64) ^^^ ((ev0 &&& (255 : Int32)).toInt64)) * (1099511628211 : Int64)) ^^^ ((ev1 &&& (255 : Int32)).toInt64)) * (1099511628211 : Int64)) ^^^ ((ev2 &&& (255 : Int32)).toInt64)) * (1099511628211 : Int64)) ^^^ ((ev3 &&& (255 : Int32)).toInt64)))])) (fun _ k => XS.sipush X0.here hx rfl (hb hby d2_29) (XS.iand X0.here hx rfl (hb hby d2_32) rfl (XS.i2l X0.here hx rfl (hb hby d2_33) rfl (XS.lxor X0.here hx rfl (hb hby d2_34) rfl (XS.lstoreN X0.here hx rfl (hb hby d2_35) rfl (l' := #[.val (.ref y0), .val (.long ((((((((-3750763034362895579 : Int64) ^^^ ((ev0 &&& (255 : Int32)).toInt64)) * (1099511628211 : Int64)) ^^^ ((ev1 &&& (255 : Int32)).toInt64)) * (1099511628211 : Int64)) ^^^ ((ev2 &&& (255 : Int32)).toInt64)) * (1099511628211 : Int64)) ^^^ ((ev3 &&& (255 : Int32)).toInt64))), .second, .val (.ref y0), .val (.int (4 : Int32)), .val (.int (3 : Int32)), .val (.int ev3)]) rfl (XS.lloadN X0.here hx rfl (hb hby d2_36) rfl k)))))) ?_
  refine own_go (T' := s₁) (f' := (mkF m 15 #[.val (.ref y0), .val (.long (((((((((-3750763034362895579 : Int64) ^^^ ((ev0 &&& (255 : Int32)).toInt64)) * (1099511628211 : Int64)) ^^^ ((ev1 &&& (255 : Int32)).toInt64)) * (1099511628211 : Int64)) ^^^ ((ev2 &&& (255 : Int32)).toInt64)) * (1099511628211 : Int64)) ^^^ ((ev3 &&& (255 : Int32)).toInt64)) * (1099511628211 : Int64))), .second, .val (.ref y0), .val (.int (4 : Int32)), .val (.int (4 : Int32)), .val (.int ev3)] [(.int (4 : Int32))])) (fun _ k => X0.ldc2Long hx hown (mvT hZ (ow12 hw)) (g := (mkF m 37 #[.val (.ref y0), .val (.long ((((((((-3750763034362895579 : Int64) ^^^ ((ev0 &&& (255 : Int32)).toInt64)) * (1099511628211 : Int64)) ^^^ ((ev1 &&& (255 : Int32)).toInt64)) * (1099511628211 : Int64)) ^^^ ((ev2 &&& (255 : Int32)).toInt64)) * (1099511628211 : Int64)) ^^^ ((ev3 &&& (255 : Int32)).toInt64))), .second, .val (.ref y0), .val (.int (4 : Int32)), .val (.int (3 : Int32)), .val (.int ev3)] [(.long ((((((((-3750763034362895579 : Int64) ^^^ ((ev0 &&& (255 : Int32)).toInt64)) * (1099511628211 : Int64)) ^^^ ((ev1 &&& (255 : Int32)).toInt64)) * (1099511628211 : Int64)) ^^^ ((ev2 &&& (255 : Int32)).toInt64)) * (1099511628211 : Int64)) ^^^ ((ev3 &&& (255 : Int32)).toInt64)))])) rfl (hb hby d2_37) _ (XS.lmul X0.here hx rfl (hb hby d2_40) rfl (XS.lstoreN X0.here hx rfl (hb hby d2_41) rfl (l' := #[.val (.ref y0), .val (.long (((((((((-3750763034362895579 : Int64) ^^^ ((ev0 &&& (255 : Int32)).toInt64)) * (1099511628211 : Int64)) ^^^ ((ev1 &&& (255 : Int32)).toInt64)) * (1099511628211 : Int64)) ^^^ ((ev2 &&& (255 : Int32)).toInt64)) * (1099511628211 : Int64)) ^^^ ((ev3 &&& (255 : Int32)).toInt64)) * (1099511628211 : Int64))), .second, .val (.ref y0), .val (.int (4 : Int32)), .val (.int (3 : Int32)), .val (.int ev3)]) rfl (XS.iinc X0.here hx rfl (hb hby d2_42) rfl (l' := #[.val (.ref y0), .val (.long (((((((((-3750763034362895579 : Int64) ^^^ ((ev0 &&& (255 : Int32)).toInt64)) * (1099511628211 : Int64)) ^^^ ((ev1 &&& (255 : Int32)).toInt64)) * (1099511628211 : Int64)) ^^^ ((ev2 &&& (255 : Int32)).toInt64)) * (1099511628211 : Int64)) ^^^ ((ev3 &&& (255 : Int32)).toInt64)) * (1099511628211 : Int64))), .second, .val (.ref y0), .val (.int (4 : Int32)), .val (.int (4 : Int32)), .val (.int ev3)]) rfl (XS.goto X0.here hx rfl (pc0 := 45) (pc' := 13) rfl (hb hby d2_45) (by decide) (by decide) (XS.iload X0.here hx rfl (hb hby d2_13) rfl k)))))) ?_
  refine own_go (T' := s₁) (f' := (mkF m 49 #[.val (.ref y0), .val (.long (((((((((-3750763034362895579 : Int64) ^^^ ((ev0 &&& (255 : Int32)).toInt64)) * (1099511628211 : Int64)) ^^^ ((ev1 &&& (255 : Int32)).toInt64)) * (1099511628211 : Int64)) ^^^ ((ev2 &&& (255 : Int32)).toInt64)) * (1099511628211 : Int64)) ^^^ ((ev3 &&& (255 : Int32)).toInt64)) * (1099511628211 : Int64))), .second, .val (.ref y0), .val (.int (4 : Int32)), .val (.int (4 : Int32)), .val (.int ev3)] [(.long (((((((((-3750763034362895579 : Int64) ^^^ ((ev0 &&& (255 : Int32)).toInt64)) * (1099511628211 : Int64)) ^^^ ((ev1 &&& (255 : Int32)).toInt64)) * (1099511628211 : Int64)) ^^^ ((ev2 &&& (255 : Int32)).toInt64)) * (1099511628211 : Int64)) ^^^ ((ev3 &&& (255 : Int32)).toInt64)) * (1099511628211 : Int64)))])) (fun _ k => XS.iload X0.here hx rfl (hb hby d2_15) rfl (XS.icmpYes X0.here hx rfl (pc0 := 17) (pc' := 48) rfl (hb hby d2_17) rfl (flt (by decide : ¬ ((4 : Int32) < (4 : Int32)))).2.1 (by decide) (by decide) (XS.lloadN X0.here hx rfl (hb hby d2_48) rfl k))) ?_
  refine own_ret X0 (v := some (.long (((((((((-3750763034362895579 : Int64) ^^^ ((ev0 &&& (255 : Int32)).toInt64)) * (1099511628211 : Int64)) ^^^ ((ev1 &&& (255 : Int32)).toInt64)) * (1099511628211 : Int64)) ^^^ ((ev2 &&& (255 : Int32)).toInt64)) * (1099511628211 : Int64)) ^^^ ((ev3 &&& (255 : Int32)).toInt64)) * (1099511628211 : Int64)))) (fun h => by rw [Bd.returns] at h; cases h) Bd.notSynchronized (fun fs hr => own_retL X0 hx Bd.returns (hb hby d2_49) hr) ?_ (by decide) (by decide)
  show Q2_4 Z y0 kc ev0 ev1 ev2 ev3 h0 n0 _ s₁.heap _
  exact ⟨rfl, N0, e0⟩
theorem pd1 : parseMethodDescriptor "([BIIII)V" = some ⟨[(.array .byte), .int, .int, .int, .int], none⟩ := by decide +kernel
theorem pd0 : parseMethodDescriptor "([B)J" = some ⟨[(.array .byte)], some .long⟩ := by decide +kernel
theorem ef_rm0 (m : MethodId) (p0 : Int32) (p1 : Int32) (p2 : Int32) (p3 : Int32) (p4 : Int32) : entryFrame m #[(.int p0), (.int p1), (.int p2), (.int p3), (.int p4)] maxLocals = mkF m 0 #[.val (.int p0), .val (.int p1), .val (.int p2), .val (.int p3), .val (.int p4), .unset, .unset, .unset, .unset, .unset, .unset, .unset, .unset, .unset] [] := by first | (simp [entryFrame, mkF, argsToLocals, Value.category, maxLocals]; done) | rfl
def Q0 (Z : State) (p0 : Int32) (p1 : Int32) (p2 : Int32) (p3 : Int32) (p4 : Int32) (h0 : Heap) (n0 : Nat) (v : Option Value) (h : Heap) (L : List Loc) : Prop := v = some (.int (1 : Int32)) ∧ Fr n0 L
set_option maxRecDepth 65536 in
set_option maxHeartbeats 40000000 in
theorem rm0 (l : Launch) (Z : State) (a0 : Array Value) (hw : ∀ d ∈ tables_1, d.before a0 Z = true) (ws : List Jvm.Cond) (p0 : Int32) (p1 : Int32) (p2 : Int32) (p3 : Int32) (p4 : Int32) (h0 : Heap) (n0 : Nat) (Z0 : n0 ≤ h0.size) :
    MetFree l x (head1 (Jvm.Cond.code x code maxLocals ret :: ws) room_1) (fun a U => a = #[(.int p0), (.int p1), (.int p2), (.int p3), (.int p4)] ∧ Z.Warmed39 U.vm ∧ U.heap = h0) (fun _ _ _ _ _ => True) (fun _ U o U' => ∃ v L, o = .returned v ∧ Q0 Z p0 p1 p2 p3 p4 h0 n0 v U'.heap L ∧ FrameEnd U o U' L room_1.cells room_1.slots) := by
  refine MetFree.of_bodySF (plainFor_of_name pn_1) hisR ?_
  intro p e s m args below meth c s₁ Bd hml0 hP hK
  obtain ⟨rfl, hZ, hh⟩ := hP
  have hx := Bd.exec
  have hby := Bd.bytes
  have hml : c.maxLocals = 14 := hml0
  have hown : s.vm.findClass "com/example/libakin/libakin/hash/HashesFnv1aPinLaw" = some m.cls := findClass_of_methodNamed Bd.named
  have hnm := (name_of_methodNamed Bd.named Bd.method).1
  have X0 : Stand p l e room_1 s m #[(.int p0), (.int p1), (.int p2), (.int p3), (.int p4)] below meth c s₁ [] 0 0 := Stand.of_body Bd
  have e0 : s₁.heap = h0 := by rw [← hh, Bd.state]; rfl
  have N0 := Fr.nil n0
  show own_Ends p e below s (Q0 Z p0 p1 p2 p3 p4 h0 n0) _ _ s₁ _
  rw [ef_rm0 m p0 p1 p2 p3 p4]
  refine own_go (T' := s₁) (f' := (mkF m 5 #[.val (.int p0), .val (.int p1), .val (.int p2), .val (.int p3), .val (.int p4), .val (.int (p0 &&& (3 : Int32))), .unset, .unset, .unset, .unset, .unset, .unset, .unset, .unset] [])) (fun _ k => XS.iloadN X0.here hx rfl (hb hby at_0) rfl (XS.iconst X0.here hx rfl (hb hby at_1) (XS.iand X0.here hx rfl (hb hby at_2) rfl (XS.istore X0.here hx rfl (hb hby at_3) rfl (l' := #[.val (.int p0), .val (.int p1), .val (.int p2), .val (.int p3), .val (.int p4), .val (.int (p0 &&& (3 : Int32))), .unset, .unset, .unset, .unset, .unset, .unset, .unset, .unset]) rfl k)))) ?_
  generalize hzn : (p0 &&& (3 : Int32)) = zn
  have hn : zn = 0 ∨ zn = 1 ∨ zn = 2 ∨ zn = 3 := by rw [← hzn]; exact own_and3 _
  rcases hn with rfl | rfl | rfl | rfl
  · refine own_go (T' := s₁) (f' := (mkF m 7 #[.val (.int p0), .val (.int p1), .val (.int p2), .val (.int p3), .val (.int p4), .val (.int (0 : Int32)), .unset, .unset, .unset, .unset, .unset, .unset, .unset, .unset] [(.int (0 : Int32))])) (fun _ k => XS.iload X0.here hx rfl (hb hby at_5) rfl k) ?_
    obtain ⟨T1, h1, k1, X1, e1, E1, A1, st1⟩ := newP (aty := .byte) X0 hx hZ (ow0 hw) e0 (g := (mkF m 7 #[.val (.int p0), .val (.int p1), .val (.int p2), .val (.int p3), .val (.int p4), .val (.int (0 : Int32)), .unset, .unset, .unset, .unset, .unset, .unset, .unset, .unset] [(.int (0 : Int32))])) rfl (hb hby at_7) rfl (by decide) (cap := 0) (by decide) (by decide) (by decide) (by decide)
    obtain ⟨b1, g_b1⟩ : ∃ z, z = h0.size := ⟨_, rfl⟩
    have sg_b1 : h0.size ≤ b1 := Nat.le_of_eq g_b1.symm
    rw [← g_b1] at A1 st1
    have n_b1 : n0 ≤ b1 := Nat.le_trans Z0 (Nat.le_of_eq g_b1.symm)
    have sz_b1 : h0.size ≤ b1 := Nat.le_trans (Keep.refl h0 []).1 (Nat.le_of_eq g_b1.symm)
    have K1 : Keep h0 h1 [] := (Keep.refl h0 []).ext E1
    have V_b1 : Arv Z h1 b1 k1 .byte (0 : Int32) [] (.int (0 : Int32)) := Arv.new A1 (by decide)
    refine own_go (T' := T1) (f' := (mkF m 17 #[.val (.int p0), .val (.int p1), .val (.int p2), .val (.int p3), .val (.int p4), .val (.int (0 : Int32)), .val (.ref b1), .unset, .unset, .unset, .unset, .unset, .unset, .unset] [(.int p2), (.int p1), (.int (0 : Int32)), (.ref b1)])) (fun _ k => st1 _ (XS.astore X1.here hx rfl (hb hby at_9) rfl rfl (l' := #[.val (.int p0), .val (.int p1), .val (.int p2), .val (.int p3), .val (.int p4), .val (.int (0 : Int32)), .val (.ref b1), .unset, .unset, .unset, .unset, .unset, .unset, .unset]) rfl (XS.aload X1.here hx rfl (hb hby at_11) rfl rfl (XS.iload X1.here hx rfl (hb hby at_13) rfl (XS.iloadN X1.here hx rfl (hb hby at_15) rfl (XS.iloadN X1.here hx rfl (hb hby at_16) rfl k)))))) ?_
    refine own_go (T' := T1) (f' := (mkF m 18 #[.val (.int p0), .val (.int p1), .val (.int p2), .val (.int p3), .val (.int p4), .val (.int (0 : Int32)), .val (.ref b1), .unset, .unset, .unset, .unset, .unset, .unset, .unset] [(.int p3), (.int p2), (.int p1), (.int (0 : Int32)), (.ref b1)])) (fun _ k => XS.iloadN X1.here hx rfl (hb hby at_17) rfl k) ?_
    obtain ⟨_, _, ⟨T2, L2, k2, n2⟩, -, X2, ⟨Lc2, hQ2, l2, y2, z2⟩, st2⟩ := Jvm.LawKit.callS X1 hx (y := mn0) hown (mvT hZ (ow1 hw)) (mvT hZ (ow2 hw)) (mvT hZ (ow3 hw)) (mvT hZ (ow4 hw)) (by decide) (backOf (W := 0) (rm1_0_0 l Z a0 hw [] b1 p1 p2 p3 k1 h1 n0 (Nat.le_trans Z0 E1.1) V_b1 n_b1) hZ (ow4 hw) (ow3 hw) (by decide) (by decide)) (g := (mkF m 18 #[.val (.int p0), .val (.int p1), .val (.int p2), .val (.int p3), .val (.int p4), .val (.int (0 : Int32)), .val (.ref b1), .unset, .unset, .unset, .unset, .unset, .unset, .unset] [(.int p3), (.int p2), (.int p1), (.int (0 : Int32)), (.ref b1)])) rfl (by rw [hml]; rfl) (argsL := [(.ref b1), (.int (0 : Int32)), (.int p1), (.int p2), (.int p3)]) (rest := []) (lenOf pd1 rfl) rfl (by show 2 * 0 + _ ≤ _; exact Nat.le_of_eq rfl) (hb hby at_18) (fun _ _ => ⟨rfl, e1, (by decide : 1 + 0 ≤ _), (by decide : 0 + 0 ≤ _)⟩)
    dsimp only [Pt.U, Pt.locs, Pt.cells, Pt.slots] at X2 l2 y2 z2 st2 hQ2
    subst l2 y2 z2
    obtain ⟨rfl, N2q, K2, V2⟩ := hQ2
    have N2 := Fr.app N0 N2q
    have KK2 : Keep h0 T2.heap [] := Keep.trans K1 K2 (allS (Or.inr sz_b1) all0)
    refine own_go (T' := T2) (f' := (mkF m 25 #[.val (.int p0), .val (.int p1), .val (.int p2), .val (.int p3), .val (.int p4), .val (.int (0 : Int32)), .val (.ref b1), .unset, .unset, .unset, .unset, .unset, .unset, .unset] [(.int (1 : Int32))])) (fun _ k => st2 _ (XS.iload X2.here hx rfl (hb hby at_21) rfl (XS.iconst X2.here hx rfl (hb hby at_23) (XS.iadd X2.here hx rfl (hb hby at_24) rfl k)))) ?_
    obtain ⟨T3, h3, k3, X3, e3, E3, A3, st3⟩ := newP (aty := .byte) X2 hx hZ (ow0 hw) rfl (g := (mkF m 25 #[.val (.int p0), .val (.int p1), .val (.int p2), .val (.int p3), .val (.int p4), .val (.int (0 : Int32)), .val (.ref b1), .unset, .unset, .unset, .unset, .unset, .unset, .unset] [(.int (1 : Int32))])) rfl (hb hby at_25) rfl (by decide) (cap := 1) (by decide) (by decide) (by decide) (by decide)
    obtain ⟨b3, g_b3⟩ : ∃ z, z = T2.heap.size := ⟨_, rfl⟩
    have sg_b3 : T2.heap.size ≤ b3 := Nat.le_of_eq g_b3.symm
    rw [← g_b3] at A3 st3
    have n_b3 : n0 ≤ b3 := Nat.le_trans (Nat.le_trans (Nat.le_trans Z0 E1.1) K2.1) (Nat.le_of_eq g_b3.symm)
    have sz_b3 : h0.size ≤ b3 := Nat.le_trans KK2.1 (Nat.le_of_eq g_b3.symm)
    have K3 : Keep h0 h3 [] := KK2.ext E3
    have V_b3 : Arv Z h3 b3 k3 .byte (1 : Int32) [(.int (0 : Int32))] (.int (0 : Int32)) := (Arv.new A3 (by decide)).pad (pad_rep [] (.int (0 : Int32)) 1)
    refine own_go (T' := T3) (f' := (mkF m 35 #[.val (.int p0), .val (.int p1), .val (.int p2), .val (.int p3), .val (.int p4), .val (.int (0 : Int32)), .val (.ref b1), .val (.ref b3), .unset, .unset, .unset, .unset, .unset, .unset] [(.int p2), (.int p1), (.int (0 : Int32)), (.ref b3)])) (fun _ k => st3 _ (XS.astore X3.here hx rfl (hb hby at_27) rfl rfl (l' := #[.val (.int p0), .val (.int p1), .val (.int p2), .val (.int p3), .val (.int p4), .val (.int (0 : Int32)), .val (.ref b1), .val (.ref b3), .unset, .unset, .unset, .unset, .unset, .unset]) rfl (XS.aload X3.here hx rfl (hb hby at_29) rfl rfl (XS.iload X3.here hx rfl (hb hby at_31) rfl (XS.iloadN X3.here hx rfl (hb hby at_33) rfl (XS.iloadN X3.here hx rfl (hb hby at_34) rfl k)))))) ?_
    refine own_go (T' := T3) (f' := (mkF m 36 #[.val (.int p0), .val (.int p1), .val (.int p2), .val (.int p3), .val (.int p4), .val (.int (0 : Int32)), .val (.ref b1), .val (.ref b3), .unset, .unset, .unset, .unset, .unset, .unset] [(.int p3), (.int p2), (.int p1), (.int (0 : Int32)), (.ref b3)])) (fun _ k => XS.iloadN X3.here hx rfl (hb hby at_35) rfl k) ?_
    obtain ⟨_, _, ⟨T4, L4, k4, n4⟩, -, X4, ⟨Lc4, hQ4, l4, y4, z4⟩, st4⟩ := Jvm.LawKit.callS X3 hx (y := mn0) hown (mvT hZ (ow1 hw)) (mvT hZ (ow2 hw)) (mvT hZ (ow3 hw)) (mvT hZ (ow4 hw)) (by decide) (backOf (W := 0) (rm1_0_1 l Z a0 hw [] b3 p1 p2 p3 k3 h3 n0 (Nat.le_trans (Nat.le_trans (Nat.le_trans Z0 E1.1) K2.1) E3.1) V_b3 n_b3) hZ (ow4 hw) (ow3 hw) (by decide) (by decide)) (g := (mkF m 36 #[.val (.int p0), .val (.int p1), .val (.int p2), .val (.int p3), .val (.int p4), .val (.int (0 : Int32)), .val (.ref b1), .val (.ref b3), .unset, .unset, .unset, .unset, .unset, .unset] [(.int p3), (.int p2), (.int p1), (.int (0 : Int32)), (.ref b3)])) rfl (by rw [hml]; rfl) (argsL := [(.ref b3), (.int (0 : Int32)), (.int p1), (.int p2), (.int p3)]) (rest := []) (lenOf pd1 rfl) rfl (by show 2 * 0 + _ ≤ _; exact Nat.le_of_eq rfl) (hb hby at_36) (fun _ _ => ⟨rfl, e3, (by decide : 2 + 0 ≤ _), (by decide : 1 + 0 ≤ _)⟩)
    dsimp only [Pt.U, Pt.locs, Pt.cells, Pt.slots] at X4 l4 y4 z4 st4 hQ4
    subst l4 y4 z4
    obtain ⟨rfl, N4q, K4, V4⟩ := hQ4
    have N4 := Fr.app N2 N4q
    have KK4 : Keep h0 T4.heap [] := Keep.trans K3 K4 (allS (Or.inr sz_b3) all0)
    refine own_go (T' := T4) (f' := (mkF m 46 #[.val (.int p0), .val (.int p1), .val (.int p2), .val (.int p3), .val (.int p4), .val (.int (0 : Int32)), .val (.ref b1), .val (.ref b3), .unset, .unset, .unset, .unset, .unset, .unset] [(.int (p4.toInt8.toInt32)), (.int (0 : Int32)), (.ref b3)])) (fun _ k => st4 _ (XS.aload X4.here hx rfl (hb hby at_39) rfl rfl (XS.iload X4.here hx rfl (hb hby at_41) rfl (XS.iload X4.here hx rfl (hb hby at_43) rfl (XS.i2b X4.here hx rfl (hb hby at_45) rfl k))))) ?_
    obtain ⟨T5, h5, X5, e5, W5, V5, st5⟩ := own_stB X4 hx hZ rfl V4 (j := (0 : Int32)) ⟨by decide, by decide⟩ 0 rfl (Nat.le_of_ble_eq_true rfl) (g := (mkF m 46 #[.val (.int p0), .val (.int p1), .val (.int p2), .val (.int p3), .val (.int p4), .val (.int (0 : Int32)), .val (.ref b1), .val (.ref b3), .unset, .unset, .unset, .unset, .unset, .unset] [(.int (p4.toInt8.toInt32)), (.int (0 : Int32)), (.ref b3)])) rfl rfl (hb hby at_46)
    have K5 : Keep h0 h5 [] := KK4.wr W5 (Or.inr sz_b3)
    have N5 := Fr.snoc X5 N4 n_b3
    refine own_go (T' := T5) (f' := (mkF m 55 #[.val (.int p0), .val (.int p1), .val (.int p2), .val (.int p3), .val (.int p4), .val (.int (0 : Int32)), .val (.ref b1), .val (.ref b3), .unset, .unset, .unset, .unset, .unset, .unset] [(.long (((p4.toInt8.toInt32).toInt64) &&& (255 : Int64)))])) (fun _ k => st5 _ (XS.iload X5.here hx rfl (hb hby at_47) rfl (XS.i2b X5.here hx rfl (hb hby at_49) rfl (XS.i2l X5.here hx rfl (hb hby at_50) rfl (X5.ldc2Long hx hown (mvT hZ (ow5 hw)) (g := (mkF m 51 #[.val (.int p0), .val (.int p1), .val (.int p2), .val (.int p3), .val (.int p4), .val (.int (0 : Int32)), .val (.ref b1), .val (.ref b3), .unset, .unset, .unset, .unset, .unset, .unset] [(.long ((p4.toInt8.toInt32).toInt64))])) rfl (hb hby at_51) _ (XS.land X5.here hx rfl (hb hby at_54) rfl k)))))) ?_
    refine own_go (T' := T5) (f' := (mkF m 58 #[.val (.int p0), .val (.int p1), .val (.int p2), .val (.int p3), .val (.int p4), .val (.int (0 : Int32)), .val (.ref b1), .val (.ref b3), .val (.long (((p4.toInt8.toInt32).toInt64) &&& (255 : Int64))), .second, .unset, .unset, .unset, .unset] [(.int (0 : Int32))])) (fun _ k => XS.lstore X5.here hx rfl (hb hby at_55) rfl (l' := #[.val (.int p0), .val (.int p1), .val (.int p2), .val (.int p3), .val (.int p4), .val (.int (0 : Int32)), .val (.ref b1), .val (.ref b3), .val (.long (((p4.toInt8.toInt32).toInt64) &&& (255 : Int64))), .second, .unset, .unset, .unset, .unset]) rfl (XS.iconst X5.here hx rfl (hb hby at_57) k)) ?_
    obtain ⟨T6, h6, k6, X6, e6, E6, A6, st6⟩ := newP (aty := .byte) X5 hx hZ (ow0 hw) e5 (g := (mkF m 58 #[.val (.int p0), .val (.int p1), .val (.int p2), .val (.int p3), .val (.int p4), .val (.int (0 : Int32)), .val (.ref b1), .val (.ref b3), .val (.long (((p4.toInt8.toInt32).toInt64) &&& (255 : Int64))), .second, .unset, .unset, .unset, .unset] [(.int (0 : Int32))])) rfl (hb hby at_58) rfl (by decide) (cap := 0) (by decide) (by decide) (by decide) (by decide)
    obtain ⟨b6, g_b6⟩ : ∃ z, z = h5.size := ⟨_, rfl⟩
    have sg_b6 : h5.size ≤ b6 := Nat.le_of_eq g_b6.symm
    rw [← g_b6] at A6 st6
    have n_b6 : n0 ≤ b6 := Nat.le_trans (Nat.le_trans (Nat.le_trans (Nat.le_trans (Nat.le_trans (Nat.le_trans Z0 E1.1) K2.1) E3.1) K4.1) (Keep.of_wr W5).1) (Nat.le_of_eq g_b6.symm)
    have sz_b6 : h0.size ≤ b6 := Nat.le_trans K5.1 (Nat.le_of_eq g_b6.symm)
    have K6 : Keep h0 h6 [] := K5.ext E6
    have V_b6 : Arv Z h6 b6 k6 .byte (0 : Int32) [] (.int (0 : Int32)) := Arv.new A6 (by decide)
    refine own_go (T' := T6) (f' := (mkF m 60 #[.val (.int p0), .val (.int p1), .val (.int p2), .val (.int p3), .val (.int p4), .val (.int (0 : Int32)), .val (.ref b1), .val (.ref b3), .val (.long (((p4.toInt8.toInt32).toInt64) &&& (255 : Int64))), .second, .unset, .unset, .unset, .unset] [(.ref b6)])) (fun _ k => st6 _ k) ?_
    obtain ⟨_, _, ⟨T7, L7, k7, n7⟩, -, X7, ⟨Lc7, hQ7, l7, y7, z7⟩, st7⟩ := Jvm.LawKit.callS X6 hx (y := mn1) hown (mvT hZ (ow6 hw)) (mvT hZ (ow7 hw)) (mvT hZ (ow8 hw)) (mvT hZ (ow9 hw)) (by decide) (backOf (W := 0) (rm2_0 l Z a0 hw [] b6 k6  h6 n0 (Nat.le_trans (Nat.le_trans (Nat.le_trans (Nat.le_trans (Nat.le_trans (Nat.le_trans Z0 E1.1) K2.1) E3.1) K4.1) (Keep.of_wr W5).1) E6.1) V_b6) hZ (ow9 hw) (ow8 hw) (by decide) (by decide)) (g := (mkF m 60 #[.val (.int p0), .val (.int p1), .val (.int p2), .val (.int p3), .val (.int p4), .val (.int (0 : Int32)), .val (.ref b1), .val (.ref b3), .val (.long (((p4.toInt8.toInt32).toInt64) &&& (255 : Int64))), .second, .unset, .unset, .unset, .unset] [(.ref b6)])) rfl (by rw [hml]; rfl) (argsL := [(.ref b6)]) (rest := []) (lenOf pd0 rfl) rfl (by show 2 * 0 + _ ≤ _; exact Nat.le_of_eq rfl) (hb hby at_60) (fun _ _ => ⟨rfl, e6, (by decide : 3 + 0 ≤ _), (by decide : 1 + 0 ≤ _)⟩)
    dsimp only [Pt.U, Pt.locs, Pt.cells, Pt.slots] at X7 l7 y7 z7 st7 hQ7
    subst l7 y7 z7
    obtain ⟨rfl, N7q, hh7⟩ := hQ7
    have N7 := Fr.app N5 N7q
    refine own_go (T' := T7) (f' := (mkF m 75 #[.val (.int p0), .val (.int p1), .val (.int p2), .val (.int p3), .val (.int p4), .val (.int (0 : Int32)), .val (.ref b1), .val (.ref b3), .val (.long (((p4.toInt8.toInt32).toInt64) &&& (255 : Int64))), .second, .unset, .unset, .unset, .unset] [(.int (1 : Int32))])) (fun _ k => st7 _ (X7.ldc2Long hx hown (mvT hZ (ow11 hw)) (g := (mkF m 63 #[.val (.int p0), .val (.int p1), .val (.int p2), .val (.int p3), .val (.int p4), .val (.int (0 : Int32)), .val (.ref b1), .val (.ref b3), .val (.long (((p4.toInt8.toInt32).toInt64) &&& (255 : Int64))), .second, .unset, .unset, .unset, .unset] [(.long (own_fnv []))])) rfl (hb hby at_63) _ (XS.lcmp X7.here hx rfl (hb hby at_66) rfl (XS.ifNo X7.here hx rfl (hb hby at_67) rfl ((if0 _ _).trans (teq ((own_lc_eq (a := (own_fnv [])) (b := (-3750763034362895579 : Int64))).mpr rfl)).2) (XS.iconst X7.here hx rfl (hb hby at_70) (XS.goto X7.here hx rfl (pc0 := 71) (pc' := 75) rfl (hb hby at_71) (by decide) (by decide) k)))))) ?_
    refine own_go (T' := T7) (f' := (mkF m 79 #[.val (.int p0), .val (.int p1), .val (.int p2), .val (.int p3), .val (.int p4), .val (.int (0 : Int32)), .val (.ref b1), .val (.ref b3), .val (.long (((p4.toInt8.toInt32).toInt64) &&& (255 : Int64))), .second, .val (.int (1 : Int32)), .unset, .unset, .unset] [(.ref b1)])) (fun _ k => XS.istore X7.here hx rfl (hb hby at_75) rfl (l' := #[.val (.int p0), .val (.int p1), .val (.int p2), .val (.int p3), .val (.int p4), .val (.int (0 : Int32)), .val (.ref b1), .val (.ref b3), .val (.long (((p4.toInt8.toInt32).toInt64) &&& (255 : Int64))), .second, .val (.int (1 : Int32)), .unset, .unset, .unset]) rfl (XS.aload X7.here hx rfl (hb hby at_77) rfl rfl k)) ?_
    obtain ⟨_, _, ⟨T8, L8, k8, n8⟩, -, X8, ⟨Lc8, hQ8, l8, y8, z8⟩, st8⟩ := Jvm.LawKit.callS X7 hx (y := mn1) hown (mvT hZ (ow6 hw)) (mvT hZ (ow7 hw)) (mvT hZ (ow8 hw)) (mvT hZ (ow9 hw)) (by decide) (backOf (W := 0) (rm2_0 l Z a0 hw [] b1 k1  h6 n0 (Nat.le_trans (Nat.le_trans (Nat.le_trans (Nat.le_trans (Nat.le_trans (Nat.le_trans Z0 E1.1) K2.1) E3.1) K4.1) (Keep.of_wr W5).1) E6.1) ((((V2.ext E3).keep K4 (ninS (Nat.ne_of_lt (Nat.lt_of_lt_of_le (Nat.lt_of_lt_of_le V_b1.lt K2.1) sg_b3)) nin0)).other W5 (Nat.ne_of_lt (Nat.lt_of_lt_of_le (Nat.lt_of_lt_of_le V_b1.lt K2.1) sg_b3))).ext E6)) hZ (ow9 hw) (ow8 hw) (by decide) (by decide)) (g := (mkF m 79 #[.val (.int p0), .val (.int p1), .val (.int p2), .val (.int p3), .val (.int p4), .val (.int (0 : Int32)), .val (.ref b1), .val (.ref b3), .val (.long (((p4.toInt8.toInt32).toInt64) &&& (255 : Int64))), .second, .val (.int (1 : Int32)), .unset, .unset, .unset] [(.ref b1)])) rfl (by rw [hml]; rfl) (argsL := [(.ref b1)]) (rest := []) (lenOf pd0 rfl) rfl (by show 2 * 0 + _ ≤ _; exact Nat.le_of_eq rfl) (hb hby at_79) (fun _ _ => ⟨rfl, hh7, (by decide : 3 + 0 ≤ _), (by decide : 1 + 0 ≤ _)⟩)
    dsimp only [Pt.U, Pt.locs, Pt.cells, Pt.slots] at X8 l8 y8 z8 st8 hQ8
    subst l8 y8 z8
    obtain ⟨rfl, N8q, hh8⟩ := hQ8
    have N8 := Fr.app N7 N8q
    refine own_go (T' := T8) (f' := (mkF m 86 #[.val (.int p0), .val (.int p1), .val (.int p2), .val (.int p3), .val (.int p4), .val (.int (0 : Int32)), .val (.ref b1), .val (.ref b3), .val (.long (((p4.toInt8.toInt32).toInt64) &&& (255 : Int64))), .second, .val (.int (1 : Int32)), .val (.long (own_fnv [])), .second, .unset] [(.ref b3)])) (fun _ k => st8 _ (XS.lstore X8.here hx rfl (hb hby at_82) rfl (l' := #[.val (.int p0), .val (.int p1), .val (.int p2), .val (.int p3), .val (.int p4), .val (.int (0 : Int32)), .val (.ref b1), .val (.ref b3), .val (.long (((p4.toInt8.toInt32).toInt64) &&& (255 : Int64))), .second, .val (.int (1 : Int32)), .val (.long (own_fnv [])), .second, .unset]) rfl (XS.aload X8.here hx rfl (hb hby at_84) rfl rfl k))) ?_
    obtain ⟨_, _, ⟨T9, L9, k9, n9⟩, -, X9, ⟨Lc9, hQ9, l9, y9, z9⟩, st9⟩ := Jvm.LawKit.callS X8 hx (y := mn1) hown (mvT hZ (ow6 hw)) (mvT hZ (ow7 hw)) (mvT hZ (ow8 hw)) (mvT hZ (ow9 hw)) (by decide) (backOf (W := 0) (rm2_1 l Z a0 hw [] b3 k3 (nar .byte (p4.toInt8.toInt32)) h6 n0 (Nat.le_trans (Nat.le_trans (Nat.le_trans (Nat.le_trans (Nat.le_trans (Nat.le_trans Z0 E1.1) K2.1) E3.1) K4.1) (Keep.of_wr W5).1) E6.1) (V5.ext E6)) hZ (ow9 hw) (ow8 hw) (by decide) (by decide)) (g := (mkF m 86 #[.val (.int p0), .val (.int p1), .val (.int p2), .val (.int p3), .val (.int p4), .val (.int (0 : Int32)), .val (.ref b1), .val (.ref b3), .val (.long (((p4.toInt8.toInt32).toInt64) &&& (255 : Int64))), .second, .val (.int (1 : Int32)), .val (.long (own_fnv [])), .second, .unset] [(.ref b3)])) rfl (by rw [hml]; rfl) (argsL := [(.ref b3)]) (rest := []) (lenOf pd0 rfl) rfl (by show 2 * 0 + _ ≤ _; exact Nat.le_of_eq rfl) (hb hby at_86) (fun _ _ => ⟨rfl, hh8, (by decide : 3 + 0 ≤ _), (by decide : 1 + 0 ≤ _)⟩)
    dsimp only [Pt.U, Pt.locs, Pt.cells, Pt.slots] at X9 l9 y9 z9 st9 hQ9
    subst l9 y9 z9
    obtain ⟨rfl, N9q, hh9⟩ := hQ9
    have N9 := Fr.app N8 N9q
    refine own_go (T' := T9) (f' := (mkF m 98 #[.val (.int p0), .val (.int p1), .val (.int p2), .val (.int p3), .val (.int p4), .val (.int (0 : Int32)), .val (.ref b1), .val (.ref b3), .val (.long (((p4.toInt8.toInt32).toInt64) &&& (255 : Int64))), .second, .val (.int (1 : Int32)), .val (.long (own_fnv [])), .second, .unset] [(.long (((own_fnv []) ^^^ (((p4.toInt8.toInt32).toInt64) &&& (255 : Int64))) * (1099511628211 : Int64))), (.long (own_fnv [(nar .byte (p4.toInt8.toInt32))]))])) (fun _ k => st9 _ (XS.lload X9.here hx rfl (hb hby at_89) rfl (XS.lload X9.here hx rfl (hb hby at_91) rfl (XS.lxor X9.here hx rfl (hb hby at_93) rfl (X9.ldc2Long hx hown (mvT hZ (ow13 hw)) (g := (mkF m 94 #[.val (.int p0), .val (.int p1), .val (.int p2), .val (.int p3), .val (.int p4), .val (.int (0 : Int32)), .val (.ref b1), .val (.ref b3), .val (.long (((p4.toInt8.toInt32).toInt64) &&& (255 : Int64))), .second, .val (.int (1 : Int32)), .val (.long (own_fnv [])), .second, .unset] [(.long ((own_fnv []) ^^^ (((p4.toInt8.toInt32).toInt64) &&& (255 : Int64)))), (.long (own_fnv [(nar .byte (p4.toInt8.toInt32))]))])) rfl (hb hby at_94) _ (XS.lmul X9.here hx rfl (hb hby at_97) rfl k)))))) ?_
    refine own_go (T' := T9) (f' := (mkF m 111 #[.val (.int p0), .val (.int p1), .val (.int p2), .val (.int p3), .val (.int p4), .val (.int (0 : Int32)), .val (.ref b1), .val (.ref b3), .val (.long (((p4.toInt8.toInt32).toInt64) &&& (255 : Int64))), .second, .val (.int (1 : Int32)), .val (.long (own_fnv [])), .second, .val (.int (1 : Int32))] [(.int (1 : Int32))])) (fun _ k => XS.lcmp X9.here hx rfl (hb hby at_98) rfl (XS.ifNo X9.here hx rfl (hb hby at_99) rfl ((if0 _ _).trans (teq ((own_lc_eq (a := (own_fnv [(nar .byte (p4.toInt8.toInt32))])) (b := (((own_fnv []) ^^^ (((p4.toInt8.toInt32).toInt64) &&& (255 : Int64))) * (1099511628211 : Int64)))).mpr (own_step [] p4))).2) (XS.iconst X9.here hx rfl (hb hby at_102) (XS.goto X9.here hx rfl (pc0 := 103) (pc' := 107) rfl (hb hby at_103) (by decide) (by decide) (XS.istore X9.here hx rfl (hb hby at_107) rfl (l' := #[.val (.int p0), .val (.int p1), .val (.int p2), .val (.int p3), .val (.int p4), .val (.int (0 : Int32)), .val (.ref b1), .val (.ref b3), .val (.long (((p4.toInt8.toInt32).toInt64) &&& (255 : Int64))), .second, .val (.int (1 : Int32)), .val (.long (own_fnv [])), .second, .val (.int (1 : Int32))]) rfl (XS.iload X9.here hx rfl (hb hby at_109) rfl k)))))) ?_
    refine own_go (T' := T9) (f' := (mkF m 124 #[.val (.int p0), .val (.int p1), .val (.int p2), .val (.int p3), .val (.int p4), .val (.int (0 : Int32)), .val (.ref b1), .val (.ref b3), .val (.long (((p4.toInt8.toInt32).toInt64) &&& (255 : Int64))), .second, .val (.int (1 : Int32)), .val (.long (own_fnv [])), .second, .val (.int (1 : Int32))] [(.int (1 : Int32))])) (fun _ k => XS.ifNo X9.here hx rfl (hb hby at_111) rfl ((if0 _ _).trans (feq (by decide : ¬ ((1 : Int32) = (0 : Int32)))).1) (XS.iload X9.here hx rfl (hb hby at_114) rfl (XS.ifNo X9.here hx rfl (hb hby at_116) rfl ((if0 _ _).trans (feq (by decide : ¬ ((1 : Int32) = (0 : Int32)))).1) (XS.iconst X9.here hx rfl (hb hby at_119) (XS.goto X9.here hx rfl (pc0 := 120) (pc' := 124) rfl (hb hby at_120) (by decide) (by decide) k))))) ?_
    refine own_ret X9 (v := some (.int (1 : Int32))) (fun h => by rw [Bd.returns] at h; cases h) Bd.notSynchronized (fun fs hr => retN X9 hx (t := .boolean) Bd.returns (by simp) (hb hby at_124) hr) ?_ (by decide) (by decide)
    show Q0 Z p0 p1 p2 p3 p4 h0 n0 _ T9.heap _
    exact ⟨rfl, N9⟩
  · refine own_go (T' := s₁) (f' := (mkF m 7 #[.val (.int p0), .val (.int p1), .val (.int p2), .val (.int p3), .val (.int p4), .val (.int (1 : Int32)), .unset, .unset, .unset, .unset, .unset, .unset, .unset, .unset] [(.int (1 : Int32))])) (fun _ k => XS.iload X0.here hx rfl (hb hby at_5) rfl k) ?_
    obtain ⟨T10, h10, k10, X10, e10, E10, A10, st10⟩ := newP (aty := .byte) X0 hx hZ (ow0 hw) e0 (g := (mkF m 7 #[.val (.int p0), .val (.int p1), .val (.int p2), .val (.int p3), .val (.int p4), .val (.int (1 : Int32)), .unset, .unset, .unset, .unset, .unset, .unset, .unset, .unset] [(.int (1 : Int32))])) rfl (hb hby at_7) rfl (by decide) (cap := 1) (by decide) (by decide) (by decide) (by decide)
    obtain ⟨b10, g_b10⟩ : ∃ z, z = h0.size := ⟨_, rfl⟩
    have sg_b10 : h0.size ≤ b10 := Nat.le_of_eq g_b10.symm
    rw [← g_b10] at A10 st10
    have n_b10 : n0 ≤ b10 := Nat.le_trans Z0 (Nat.le_of_eq g_b10.symm)
    have sz_b10 : h0.size ≤ b10 := Nat.le_trans (Keep.refl h0 []).1 (Nat.le_of_eq g_b10.symm)
    have K10 : Keep h0 h10 [] := (Keep.refl h0 []).ext E10
    have V_b10 : Arv Z h10 b10 k10 .byte (1 : Int32) [(.int (0 : Int32))] (.int (0 : Int32)) := (Arv.new A10 (by decide)).pad (pad_rep [] (.int (0 : Int32)) 1)
    refine own_go (T' := T10) (f' := (mkF m 17 #[.val (.int p0), .val (.int p1), .val (.int p2), .val (.int p3), .val (.int p4), .val (.int (1 : Int32)), .val (.ref b10), .unset, .unset, .unset, .unset, .unset, .unset, .unset] [(.int p2), (.int p1), (.int (1 : Int32)), (.ref b10)])) (fun _ k => st10 _ (XS.astore X10.here hx rfl (hb hby at_9) rfl rfl (l' := #[.val (.int p0), .val (.int p1), .val (.int p2), .val (.int p3), .val (.int p4), .val (.int (1 : Int32)), .val (.ref b10), .unset, .unset, .unset, .unset, .unset, .unset, .unset]) rfl (XS.aload X10.here hx rfl (hb hby at_11) rfl rfl (XS.iload X10.here hx rfl (hb hby at_13) rfl (XS.iloadN X10.here hx rfl (hb hby at_15) rfl (XS.iloadN X10.here hx rfl (hb hby at_16) rfl k)))))) ?_
    refine own_go (T' := T10) (f' := (mkF m 18 #[.val (.int p0), .val (.int p1), .val (.int p2), .val (.int p3), .val (.int p4), .val (.int (1 : Int32)), .val (.ref b10), .unset, .unset, .unset, .unset, .unset, .unset, .unset] [(.int p3), (.int p2), (.int p1), (.int (1 : Int32)), (.ref b10)])) (fun _ k => XS.iloadN X10.here hx rfl (hb hby at_17) rfl k) ?_
    obtain ⟨_, _, ⟨T11, L11, k11, n11⟩, -, X11, ⟨Lc11, hQ11, l11, y11, z11⟩, st11⟩ := Jvm.LawKit.callS X10 hx (y := mn0) hown (mvT hZ (ow1 hw)) (mvT hZ (ow2 hw)) (mvT hZ (ow3 hw)) (mvT hZ (ow4 hw)) (by decide) (backOf (W := 0) (rm1_1_1 l Z a0 hw [] b10 p1 p2 p3 k10 h10 n0 (Nat.le_trans Z0 E10.1) V_b10 n_b10) hZ (ow4 hw) (ow3 hw) (by decide) (by decide)) (g := (mkF m 18 #[.val (.int p0), .val (.int p1), .val (.int p2), .val (.int p3), .val (.int p4), .val (.int (1 : Int32)), .val (.ref b10), .unset, .unset, .unset, .unset, .unset, .unset, .unset] [(.int p3), (.int p2), (.int p1), (.int (1 : Int32)), (.ref b10)])) rfl (by rw [hml]; rfl) (argsL := [(.ref b10), (.int (1 : Int32)), (.int p1), (.int p2), (.int p3)]) (rest := []) (lenOf pd1 rfl) rfl (by show 2 * 0 + _ ≤ _; exact Nat.le_of_eq rfl) (hb hby at_18) (fun _ _ => ⟨rfl, e10, (by decide : 1 + 0 ≤ _), (by decide : 1 + 0 ≤ _)⟩)
    dsimp only [Pt.U, Pt.locs, Pt.cells, Pt.slots] at X11 l11 y11 z11 st11 hQ11
    subst l11 y11 z11
    obtain ⟨rfl, N11q, K11, V11⟩ := hQ11
    have N11 := Fr.app N0 N11q
    have KK11 : Keep h0 T11.heap [] := Keep.trans K10 K11 (allS (Or.inr sz_b10) all0)
    refine own_go (T' := T11) (f' := (mkF m 25 #[.val (.int p0), .val (.int p1), .val (.int p2), .val (.int p3), .val (.int p4), .val (.int (1 : Int32)), .val (.ref b10), .unset, .unset, .unset, .unset, .unset, .unset, .unset] [(.int (2 : Int32))])) (fun _ k => st11 _ (XS.iload X11.here hx rfl (hb hby at_21) rfl (XS.iconst X11.here hx rfl (hb hby at_23) (XS.iadd X11.here hx rfl (hb hby at_24) rfl k)))) ?_
    obtain ⟨T12, h12, k12, X12, e12, E12, A12, st12⟩ := newP (aty := .byte) X11 hx hZ (ow0 hw) rfl (g := (mkF m 25 #[.val (.int p0), .val (.int p1), .val (.int p2), .val (.int p3), .val (.int p4), .val (.int (1 : Int32)), .val (.ref b10), .unset, .unset, .unset, .unset, .unset, .unset, .unset] [(.int (2 : Int32))])) rfl (hb hby at_25) rfl (by decide) (cap := 2) (by decide) (by decide) (by decide) (by decide)
    obtain ⟨b12, g_b12⟩ : ∃ z, z = T11.heap.size := ⟨_, rfl⟩
    have sg_b12 : T11.heap.size ≤ b12 := Nat.le_of_eq g_b12.symm
    rw [← g_b12] at A12 st12
    have n_b12 : n0 ≤ b12 := Nat.le_trans (Nat.le_trans (Nat.le_trans Z0 E10.1) K11.1) (Nat.le_of_eq g_b12.symm)
    have sz_b12 : h0.size ≤ b12 := Nat.le_trans KK11.1 (Nat.le_of_eq g_b12.symm)
    have K12 : Keep h0 h12 [] := KK11.ext E12
    have V_b12 : Arv Z h12 b12 k12 .byte (2 : Int32) [(.int (0 : Int32)), (.int (0 : Int32))] (.int (0 : Int32)) := (Arv.new A12 (by decide)).pad (pad_rep [] (.int (0 : Int32)) 2)
    refine own_go (T' := T12) (f' := (mkF m 35 #[.val (.int p0), .val (.int p1), .val (.int p2), .val (.int p3), .val (.int p4), .val (.int (1 : Int32)), .val (.ref b10), .val (.ref b12), .unset, .unset, .unset, .unset, .unset, .unset] [(.int p2), (.int p1), (.int (1 : Int32)), (.ref b12)])) (fun _ k => st12 _ (XS.astore X12.here hx rfl (hb hby at_27) rfl rfl (l' := #[.val (.int p0), .val (.int p1), .val (.int p2), .val (.int p3), .val (.int p4), .val (.int (1 : Int32)), .val (.ref b10), .val (.ref b12), .unset, .unset, .unset, .unset, .unset, .unset]) rfl (XS.aload X12.here hx rfl (hb hby at_29) rfl rfl (XS.iload X12.here hx rfl (hb hby at_31) rfl (XS.iloadN X12.here hx rfl (hb hby at_33) rfl (XS.iloadN X12.here hx rfl (hb hby at_34) rfl k)))))) ?_
    refine own_go (T' := T12) (f' := (mkF m 36 #[.val (.int p0), .val (.int p1), .val (.int p2), .val (.int p3), .val (.int p4), .val (.int (1 : Int32)), .val (.ref b10), .val (.ref b12), .unset, .unset, .unset, .unset, .unset, .unset] [(.int p3), (.int p2), (.int p1), (.int (1 : Int32)), (.ref b12)])) (fun _ k => XS.iloadN X12.here hx rfl (hb hby at_35) rfl k) ?_
    obtain ⟨_, _, ⟨T13, L13, k13, n13⟩, -, X13, ⟨Lc13, hQ13, l13, y13, z13⟩, st13⟩ := Jvm.LawKit.callS X12 hx (y := mn0) hown (mvT hZ (ow1 hw)) (mvT hZ (ow2 hw)) (mvT hZ (ow3 hw)) (mvT hZ (ow4 hw)) (by decide) (backOf (W := 0) (rm1_1_2 l Z a0 hw [] b12 p1 p2 p3 k12 h12 n0 (Nat.le_trans (Nat.le_trans (Nat.le_trans Z0 E10.1) K11.1) E12.1) V_b12 n_b12) hZ (ow4 hw) (ow3 hw) (by decide) (by decide)) (g := (mkF m 36 #[.val (.int p0), .val (.int p1), .val (.int p2), .val (.int p3), .val (.int p4), .val (.int (1 : Int32)), .val (.ref b10), .val (.ref b12), .unset, .unset, .unset, .unset, .unset, .unset] [(.int p3), (.int p2), (.int p1), (.int (1 : Int32)), (.ref b12)])) rfl (by rw [hml]; rfl) (argsL := [(.ref b12), (.int (1 : Int32)), (.int p1), (.int p2), (.int p3)]) (rest := []) (lenOf pd1 rfl) rfl (by show 2 * 0 + _ ≤ _; exact Nat.le_of_eq rfl) (hb hby at_36) (fun _ _ => ⟨rfl, e12, (by decide : 2 + 0 ≤ _), (by decide : 3 + 0 ≤ _)⟩)
    dsimp only [Pt.U, Pt.locs, Pt.cells, Pt.slots] at X13 l13 y13 z13 st13 hQ13
    subst l13 y13 z13
    obtain ⟨rfl, N13q, K13, V13⟩ := hQ13
    have N13 := Fr.app N11 N13q
    have KK13 : Keep h0 T13.heap [] := Keep.trans K12 K13 (allS (Or.inr sz_b12) all0)
    refine own_go (T' := T13) (f' := (mkF m 46 #[.val (.int p0), .val (.int p1), .val (.int p2), .val (.int p3), .val (.int p4), .val (.int (1 : Int32)), .val (.ref b10), .val (.ref b12), .unset, .unset, .unset, .unset, .unset, .unset] [(.int (p4.toInt8.toInt32)), (.int (1 : Int32)), (.ref b12)])) (fun _ k => st13 _ (XS.aload X13.here hx rfl (hb hby at_39) rfl rfl (XS.iload X13.here hx rfl (hb hby at_41) rfl (XS.iload X13.here hx rfl (hb hby at_43) rfl (XS.i2b X13.here hx rfl (hb hby at_45) rfl k))))) ?_
    obtain ⟨T14, h14, X14, e14, W14, V14, st14⟩ := own_stB X13 hx hZ rfl V13 (j := (1 : Int32)) ⟨by decide, by decide⟩ 1 rfl (Nat.le_of_ble_eq_true rfl) (g := (mkF m 46 #[.val (.int p0), .val (.int p1), .val (.int p2), .val (.int p3), .val (.int p4), .val (.int (1 : Int32)), .val (.ref b10), .val (.ref b12), .unset, .unset, .unset, .unset, .unset, .unset] [(.int (p4.toInt8.toInt32)), (.int (1 : Int32)), (.ref b12)])) rfl rfl (hb hby at_46)
    have K14 : Keep h0 h14 [] := KK13.wr W14 (Or.inr sz_b12)
    have N14 := Fr.snoc X14 N13 n_b12
    refine own_go (T' := T14) (f' := (mkF m 55 #[.val (.int p0), .val (.int p1), .val (.int p2), .val (.int p3), .val (.int p4), .val (.int (1 : Int32)), .val (.ref b10), .val (.ref b12), .unset, .unset, .unset, .unset, .unset, .unset] [(.long (((p4.toInt8.toInt32).toInt64) &&& (255 : Int64)))])) (fun _ k => st14 _ (XS.iload X14.here hx rfl (hb hby at_47) rfl (XS.i2b X14.here hx rfl (hb hby at_49) rfl (XS.i2l X14.here hx rfl (hb hby at_50) rfl (X14.ldc2Long hx hown (mvT hZ (ow5 hw)) (g := (mkF m 51 #[.val (.int p0), .val (.int p1), .val (.int p2), .val (.int p3), .val (.int p4), .val (.int (1 : Int32)), .val (.ref b10), .val (.ref b12), .unset, .unset, .unset, .unset, .unset, .unset] [(.long ((p4.toInt8.toInt32).toInt64))])) rfl (hb hby at_51) _ (XS.land X14.here hx rfl (hb hby at_54) rfl k)))))) ?_
    refine own_go (T' := T14) (f' := (mkF m 58 #[.val (.int p0), .val (.int p1), .val (.int p2), .val (.int p3), .val (.int p4), .val (.int (1 : Int32)), .val (.ref b10), .val (.ref b12), .val (.long (((p4.toInt8.toInt32).toInt64) &&& (255 : Int64))), .second, .unset, .unset, .unset, .unset] [(.int (0 : Int32))])) (fun _ k => XS.lstore X14.here hx rfl (hb hby at_55) rfl (l' := #[.val (.int p0), .val (.int p1), .val (.int p2), .val (.int p3), .val (.int p4), .val (.int (1 : Int32)), .val (.ref b10), .val (.ref b12), .val (.long (((p4.toInt8.toInt32).toInt64) &&& (255 : Int64))), .second, .unset, .unset, .unset, .unset]) rfl (XS.iconst X14.here hx rfl (hb hby at_57) k)) ?_
    obtain ⟨T15, h15, k15, X15, e15, E15, A15, st15⟩ := newP (aty := .byte) X14 hx hZ (ow0 hw) e14 (g := (mkF m 58 #[.val (.int p0), .val (.int p1), .val (.int p2), .val (.int p3), .val (.int p4), .val (.int (1 : Int32)), .val (.ref b10), .val (.ref b12), .val (.long (((p4.toInt8.toInt32).toInt64) &&& (255 : Int64))), .second, .unset, .unset, .unset, .unset] [(.int (0 : Int32))])) rfl (hb hby at_58) rfl (by decide) (cap := 0) (by decide) (by decide) (by decide) (by decide)
    obtain ⟨b15, g_b15⟩ : ∃ z, z = h14.size := ⟨_, rfl⟩
    have sg_b15 : h14.size ≤ b15 := Nat.le_of_eq g_b15.symm
    rw [← g_b15] at A15 st15
    have n_b15 : n0 ≤ b15 := Nat.le_trans (Nat.le_trans (Nat.le_trans (Nat.le_trans (Nat.le_trans (Nat.le_trans Z0 E10.1) K11.1) E12.1) K13.1) (Keep.of_wr W14).1) (Nat.le_of_eq g_b15.symm)
    have sz_b15 : h0.size ≤ b15 := Nat.le_trans K14.1 (Nat.le_of_eq g_b15.symm)
    have K15 : Keep h0 h15 [] := K14.ext E15
    have V_b15 : Arv Z h15 b15 k15 .byte (0 : Int32) [] (.int (0 : Int32)) := Arv.new A15 (by decide)
    refine own_go (T' := T15) (f' := (mkF m 60 #[.val (.int p0), .val (.int p1), .val (.int p2), .val (.int p3), .val (.int p4), .val (.int (1 : Int32)), .val (.ref b10), .val (.ref b12), .val (.long (((p4.toInt8.toInt32).toInt64) &&& (255 : Int64))), .second, .unset, .unset, .unset, .unset] [(.ref b15)])) (fun _ k => st15 _ k) ?_
    obtain ⟨_, _, ⟨T16, L16, k16, n16⟩, -, X16, ⟨Lc16, hQ16, l16, y16, z16⟩, st16⟩ := Jvm.LawKit.callS X15 hx (y := mn1) hown (mvT hZ (ow6 hw)) (mvT hZ (ow7 hw)) (mvT hZ (ow8 hw)) (mvT hZ (ow9 hw)) (by decide) (backOf (W := 0) (rm2_0 l Z a0 hw [] b15 k15  h15 n0 (Nat.le_trans (Nat.le_trans (Nat.le_trans (Nat.le_trans (Nat.le_trans (Nat.le_trans Z0 E10.1) K11.1) E12.1) K13.1) (Keep.of_wr W14).1) E15.1) V_b15) hZ (ow9 hw) (ow8 hw) (by decide) (by decide)) (g := (mkF m 60 #[.val (.int p0), .val (.int p1), .val (.int p2), .val (.int p3), .val (.int p4), .val (.int (1 : Int32)), .val (.ref b10), .val (.ref b12), .val (.long (((p4.toInt8.toInt32).toInt64) &&& (255 : Int64))), .second, .unset, .unset, .unset, .unset] [(.ref b15)])) rfl (by rw [hml]; rfl) (argsL := [(.ref b15)]) (rest := []) (lenOf pd0 rfl) rfl (by show 2 * 0 + _ ≤ _; exact Nat.le_of_eq rfl) (hb hby at_60) (fun _ _ => ⟨rfl, e15, (by decide : 3 + 0 ≤ _), (by decide : 3 + 0 ≤ _)⟩)
    dsimp only [Pt.U, Pt.locs, Pt.cells, Pt.slots] at X16 l16 y16 z16 st16 hQ16
    subst l16 y16 z16
    obtain ⟨rfl, N16q, hh16⟩ := hQ16
    have N16 := Fr.app N14 N16q
    refine own_go (T' := T16) (f' := (mkF m 75 #[.val (.int p0), .val (.int p1), .val (.int p2), .val (.int p3), .val (.int p4), .val (.int (1 : Int32)), .val (.ref b10), .val (.ref b12), .val (.long (((p4.toInt8.toInt32).toInt64) &&& (255 : Int64))), .second, .unset, .unset, .unset, .unset] [(.int (1 : Int32))])) (fun _ k => st16 _ (X16.ldc2Long hx hown (mvT hZ (ow11 hw)) (g := (mkF m 63 #[.val (.int p0), .val (.int p1), .val (.int p2), .val (.int p3), .val (.int p4), .val (.int (1 : Int32)), .val (.ref b10), .val (.ref b12), .val (.long (((p4.toInt8.toInt32).toInt64) &&& (255 : Int64))), .second, .unset, .unset, .unset, .unset] [(.long (own_fnv []))])) rfl (hb hby at_63) _ (XS.lcmp X16.here hx rfl (hb hby at_66) rfl (XS.ifNo X16.here hx rfl (hb hby at_67) rfl ((if0 _ _).trans (teq ((own_lc_eq (a := (own_fnv [])) (b := (-3750763034362895579 : Int64))).mpr rfl)).2) (XS.iconst X16.here hx rfl (hb hby at_70) (XS.goto X16.here hx rfl (pc0 := 71) (pc' := 75) rfl (hb hby at_71) (by decide) (by decide) k)))))) ?_
    refine own_go (T' := T16) (f' := (mkF m 79 #[.val (.int p0), .val (.int p1), .val (.int p2), .val (.int p3), .val (.int p4), .val (.int (1 : Int32)), .val (.ref b10), .val (.ref b12), .val (.long (((p4.toInt8.toInt32).toInt64) &&& (255 : Int64))), .second, .val (.int (1 : Int32)), .unset, .unset, .unset] [(.ref b10)])) (fun _ k => XS.istore X16.here hx rfl (hb hby at_75) rfl (l' := #[.val (.int p0), .val (.int p1), .val (.int p2), .val (.int p3), .val (.int p4), .val (.int (1 : Int32)), .val (.ref b10), .val (.ref b12), .val (.long (((p4.toInt8.toInt32).toInt64) &&& (255 : Int64))), .second, .val (.int (1 : Int32)), .unset, .unset, .unset]) rfl (XS.aload X16.here hx rfl (hb hby at_77) rfl rfl k)) ?_
    obtain ⟨_, _, ⟨T17, L17, k17, n17⟩, -, X17, ⟨Lc17, hQ17, l17, y17, z17⟩, st17⟩ := Jvm.LawKit.callS X16 hx (y := mn1) hown (mvT hZ (ow6 hw)) (mvT hZ (ow7 hw)) (mvT hZ (ow8 hw)) (mvT hZ (ow9 hw)) (by decide) (backOf (W := 0) (rm2_1 l Z a0 hw [] b10 k10 (nar .byte (p1.toInt8.toInt32)) h15 n0 (Nat.le_trans (Nat.le_trans (Nat.le_trans (Nat.le_trans (Nat.le_trans (Nat.le_trans Z0 E10.1) K11.1) E12.1) K13.1) (Keep.of_wr W14).1) E15.1) ((((V11.ext E12).keep K13 (ninS (Nat.ne_of_lt (Nat.lt_of_lt_of_le (Nat.lt_of_lt_of_le V_b10.lt K11.1) sg_b12)) nin0)).other W14 (Nat.ne_of_lt (Nat.lt_of_lt_of_le (Nat.lt_of_lt_of_le V_b10.lt K11.1) sg_b12))).ext E15)) hZ (ow9 hw) (ow8 hw) (by decide) (by decide)) (g := (mkF m 79 #[.val (.int p0), .val (.int p1), .val (.int p2), .val (.int p3), .val (.int p4), .val (.int (1 : Int32)), .val (.ref b10), .val (.ref b12), .val (.long (((p4.toInt8.toInt32).toInt64) &&& (255 : Int64))), .second, .val (.int (1 : Int32)), .unset, .unset, .unset] [(.ref b10)])) rfl (by rw [hml]; rfl) (argsL := [(.ref b10)]) (rest := []) (lenOf pd0 rfl) rfl (by show 2 * 0 + _ ≤ _; exact Nat.le_of_eq rfl) (hb hby at_79) (fun _ _ => ⟨rfl, hh16, (by decide : 3 + 0 ≤ _), (by decide : 3 + 0 ≤ _)⟩)
    dsimp only [Pt.U, Pt.locs, Pt.cells, Pt.slots] at X17 l17 y17 z17 st17 hQ17
    subst l17 y17 z17
    obtain ⟨rfl, N17q, hh17⟩ := hQ17
    have N17 := Fr.app N16 N17q
    refine own_go (T' := T17) (f' := (mkF m 86 #[.val (.int p0), .val (.int p1), .val (.int p2), .val (.int p3), .val (.int p4), .val (.int (1 : Int32)), .val (.ref b10), .val (.ref b12), .val (.long (((p4.toInt8.toInt32).toInt64) &&& (255 : Int64))), .second, .val (.int (1 : Int32)), .val (.long (own_fnv [(nar .byte (p1.toInt8.toInt32))])), .second, .unset] [(.ref b12)])) (fun _ k => st17 _ (XS.lstore X17.here hx rfl (hb hby at_82) rfl (l' := #[.val (.int p0), .val (.int p1), .val (.int p2), .val (.int p3), .val (.int p4), .val (.int (1 : Int32)), .val (.ref b10), .val (.ref b12), .val (.long (((p4.toInt8.toInt32).toInt64) &&& (255 : Int64))), .second, .val (.int (1 : Int32)), .val (.long (own_fnv [(nar .byte (p1.toInt8.toInt32))])), .second, .unset]) rfl (XS.aload X17.here hx rfl (hb hby at_84) rfl rfl k))) ?_
    obtain ⟨_, _, ⟨T18, L18, k18, n18⟩, -, X18, ⟨Lc18, hQ18, l18, y18, z18⟩, st18⟩ := Jvm.LawKit.callS X17 hx (y := mn1) hown (mvT hZ (ow6 hw)) (mvT hZ (ow7 hw)) (mvT hZ (ow8 hw)) (mvT hZ (ow9 hw)) (by decide) (backOf (W := 0) (rm2_2 l Z a0 hw [] b12 k12 (nar .byte (p1.toInt8.toInt32)) (nar .byte (p4.toInt8.toInt32)) h15 n0 (Nat.le_trans (Nat.le_trans (Nat.le_trans (Nat.le_trans (Nat.le_trans (Nat.le_trans Z0 E10.1) K11.1) E12.1) K13.1) (Keep.of_wr W14).1) E15.1) (V14.ext E15)) hZ (ow9 hw) (ow8 hw) (by decide) (by decide)) (g := (mkF m 86 #[.val (.int p0), .val (.int p1), .val (.int p2), .val (.int p3), .val (.int p4), .val (.int (1 : Int32)), .val (.ref b10), .val (.ref b12), .val (.long (((p4.toInt8.toInt32).toInt64) &&& (255 : Int64))), .second, .val (.int (1 : Int32)), .val (.long (own_fnv [(nar .byte (p1.toInt8.toInt32))])), .second, .unset] [(.ref b12)])) rfl (by rw [hml]; rfl) (argsL := [(.ref b12)]) (rest := []) (lenOf pd0 rfl) rfl (by show 2 * 0 + _ ≤ _; exact Nat.le_of_eq rfl) (hb hby at_86) (fun _ _ => ⟨rfl, hh17, (by decide : 3 + 0 ≤ _), (by decide : 3 + 0 ≤ _)⟩)
    dsimp only [Pt.U, Pt.locs, Pt.cells, Pt.slots] at X18 l18 y18 z18 st18 hQ18
    subst l18 y18 z18
    obtain ⟨rfl, N18q, hh18⟩ := hQ18
    have N18 := Fr.app N17 N18q
    refine own_go (T' := T18) (f' := (mkF m 98 #[.val (.int p0), .val (.int p1), .val (.int p2), .val (.int p3), .val (.int p4), .val (.int (1 : Int32)), .val (.ref b10), .val (.ref b12), .val (.long (((p4.toInt8.toInt32).toInt64) &&& (255 : Int64))), .second, .val (.int (1 : Int32)), .val (.long (own_fnv [(nar .byte (p1.toInt8.toInt32))])), .second, .unset] [(.long (((own_fnv [(nar .byte (p1.toInt8.toInt32))]) ^^^ (((p4.toInt8.toInt32).toInt64) &&& (255 : Int64))) * (1099511628211 : Int64))), (.long (own_fnv [(nar .byte (p1.toInt8.toInt32)), (nar .byte (p4.toInt8.toInt32))]))])) (fun _ k => st18 _ (XS.lload X18.here hx rfl (hb hby at_89) rfl (XS.lload X18.here hx rfl (hb hby at_91) rfl (XS.lxor X18.here hx rfl (hb hby at_93) rfl (X18.ldc2Long hx hown (mvT hZ (ow13 hw)) (g := (mkF m 94 #[.val (.int p0), .val (.int p1), .val (.int p2), .val (.int p3), .val (.int p4), .val (.int (1 : Int32)), .val (.ref b10), .val (.ref b12), .val (.long (((p4.toInt8.toInt32).toInt64) &&& (255 : Int64))), .second, .val (.int (1 : Int32)), .val (.long (own_fnv [(nar .byte (p1.toInt8.toInt32))])), .second, .unset] [(.long ((own_fnv [(nar .byte (p1.toInt8.toInt32))]) ^^^ (((p4.toInt8.toInt32).toInt64) &&& (255 : Int64)))), (.long (own_fnv [(nar .byte (p1.toInt8.toInt32)), (nar .byte (p4.toInt8.toInt32))]))])) rfl (hb hby at_94) _ (XS.lmul X18.here hx rfl (hb hby at_97) rfl k)))))) ?_
    refine own_go (T' := T18) (f' := (mkF m 111 #[.val (.int p0), .val (.int p1), .val (.int p2), .val (.int p3), .val (.int p4), .val (.int (1 : Int32)), .val (.ref b10), .val (.ref b12), .val (.long (((p4.toInt8.toInt32).toInt64) &&& (255 : Int64))), .second, .val (.int (1 : Int32)), .val (.long (own_fnv [(nar .byte (p1.toInt8.toInt32))])), .second, .val (.int (1 : Int32))] [(.int (1 : Int32))])) (fun _ k => XS.lcmp X18.here hx rfl (hb hby at_98) rfl (XS.ifNo X18.here hx rfl (hb hby at_99) rfl ((if0 _ _).trans (teq ((own_lc_eq (a := (own_fnv [(nar .byte (p1.toInt8.toInt32)), (nar .byte (p4.toInt8.toInt32))])) (b := (((own_fnv [(nar .byte (p1.toInt8.toInt32))]) ^^^ (((p4.toInt8.toInt32).toInt64) &&& (255 : Int64))) * (1099511628211 : Int64)))).mpr (own_step [(nar .byte (p1.toInt8.toInt32))] p4))).2) (XS.iconst X18.here hx rfl (hb hby at_102) (XS.goto X18.here hx rfl (pc0 := 103) (pc' := 107) rfl (hb hby at_103) (by decide) (by decide) (XS.istore X18.here hx rfl (hb hby at_107) rfl (l' := #[.val (.int p0), .val (.int p1), .val (.int p2), .val (.int p3), .val (.int p4), .val (.int (1 : Int32)), .val (.ref b10), .val (.ref b12), .val (.long (((p4.toInt8.toInt32).toInt64) &&& (255 : Int64))), .second, .val (.int (1 : Int32)), .val (.long (own_fnv [(nar .byte (p1.toInt8.toInt32))])), .second, .val (.int (1 : Int32))]) rfl (XS.iload X18.here hx rfl (hb hby at_109) rfl k)))))) ?_
    refine own_go (T' := T18) (f' := (mkF m 124 #[.val (.int p0), .val (.int p1), .val (.int p2), .val (.int p3), .val (.int p4), .val (.int (1 : Int32)), .val (.ref b10), .val (.ref b12), .val (.long (((p4.toInt8.toInt32).toInt64) &&& (255 : Int64))), .second, .val (.int (1 : Int32)), .val (.long (own_fnv [(nar .byte (p1.toInt8.toInt32))])), .second, .val (.int (1 : Int32))] [(.int (1 : Int32))])) (fun _ k => XS.ifNo X18.here hx rfl (hb hby at_111) rfl ((if0 _ _).trans (feq (by decide : ¬ ((1 : Int32) = (0 : Int32)))).1) (XS.iload X18.here hx rfl (hb hby at_114) rfl (XS.ifNo X18.here hx rfl (hb hby at_116) rfl ((if0 _ _).trans (feq (by decide : ¬ ((1 : Int32) = (0 : Int32)))).1) (XS.iconst X18.here hx rfl (hb hby at_119) (XS.goto X18.here hx rfl (pc0 := 120) (pc' := 124) rfl (hb hby at_120) (by decide) (by decide) k))))) ?_
    refine own_ret X18 (v := some (.int (1 : Int32))) (fun h => by rw [Bd.returns] at h; cases h) Bd.notSynchronized (fun fs hr => retN X18 hx (t := .boolean) Bd.returns (by simp) (hb hby at_124) hr) ?_ (by decide) (by decide)
    show Q0 Z p0 p1 p2 p3 p4 h0 n0 _ T18.heap _
    exact ⟨rfl, N18⟩
  · refine own_go (T' := s₁) (f' := (mkF m 7 #[.val (.int p0), .val (.int p1), .val (.int p2), .val (.int p3), .val (.int p4), .val (.int (2 : Int32)), .unset, .unset, .unset, .unset, .unset, .unset, .unset, .unset] [(.int (2 : Int32))])) (fun _ k => XS.iload X0.here hx rfl (hb hby at_5) rfl k) ?_
    obtain ⟨T19, h19, k19, X19, e19, E19, A19, st19⟩ := newP (aty := .byte) X0 hx hZ (ow0 hw) e0 (g := (mkF m 7 #[.val (.int p0), .val (.int p1), .val (.int p2), .val (.int p3), .val (.int p4), .val (.int (2 : Int32)), .unset, .unset, .unset, .unset, .unset, .unset, .unset, .unset] [(.int (2 : Int32))])) rfl (hb hby at_7) rfl (by decide) (cap := 2) (by decide) (by decide) (by decide) (by decide)
    obtain ⟨b19, g_b19⟩ : ∃ z, z = h0.size := ⟨_, rfl⟩
    have sg_b19 : h0.size ≤ b19 := Nat.le_of_eq g_b19.symm
    rw [← g_b19] at A19 st19
    have n_b19 : n0 ≤ b19 := Nat.le_trans Z0 (Nat.le_of_eq g_b19.symm)
    have sz_b19 : h0.size ≤ b19 := Nat.le_trans (Keep.refl h0 []).1 (Nat.le_of_eq g_b19.symm)
    have K19 : Keep h0 h19 [] := (Keep.refl h0 []).ext E19
    have V_b19 : Arv Z h19 b19 k19 .byte (2 : Int32) [(.int (0 : Int32)), (.int (0 : Int32))] (.int (0 : Int32)) := (Arv.new A19 (by decide)).pad (pad_rep [] (.int (0 : Int32)) 2)
    refine own_go (T' := T19) (f' := (mkF m 17 #[.val (.int p0), .val (.int p1), .val (.int p2), .val (.int p3), .val (.int p4), .val (.int (2 : Int32)), .val (.ref b19), .unset, .unset, .unset, .unset, .unset, .unset, .unset] [(.int p2), (.int p1), (.int (2 : Int32)), (.ref b19)])) (fun _ k => st19 _ (XS.astore X19.here hx rfl (hb hby at_9) rfl rfl (l' := #[.val (.int p0), .val (.int p1), .val (.int p2), .val (.int p3), .val (.int p4), .val (.int (2 : Int32)), .val (.ref b19), .unset, .unset, .unset, .unset, .unset, .unset, .unset]) rfl (XS.aload X19.here hx rfl (hb hby at_11) rfl rfl (XS.iload X19.here hx rfl (hb hby at_13) rfl (XS.iloadN X19.here hx rfl (hb hby at_15) rfl (XS.iloadN X19.here hx rfl (hb hby at_16) rfl k)))))) ?_
    refine own_go (T' := T19) (f' := (mkF m 18 #[.val (.int p0), .val (.int p1), .val (.int p2), .val (.int p3), .val (.int p4), .val (.int (2 : Int32)), .val (.ref b19), .unset, .unset, .unset, .unset, .unset, .unset, .unset] [(.int p3), (.int p2), (.int p1), (.int (2 : Int32)), (.ref b19)])) (fun _ k => XS.iloadN X19.here hx rfl (hb hby at_17) rfl k) ?_
    obtain ⟨_, _, ⟨T20, L20, k20, n20⟩, -, X20, ⟨Lc20, hQ20, l20, y20, z20⟩, st20⟩ := Jvm.LawKit.callS X19 hx (y := mn0) hown (mvT hZ (ow1 hw)) (mvT hZ (ow2 hw)) (mvT hZ (ow3 hw)) (mvT hZ (ow4 hw)) (by decide) (backOf (W := 0) (rm1_2_2 l Z a0 hw [] b19 p1 p2 p3 k19 h19 n0 (Nat.le_trans Z0 E19.1) V_b19 n_b19) hZ (ow4 hw) (ow3 hw) (by decide) (by decide)) (g := (mkF m 18 #[.val (.int p0), .val (.int p1), .val (.int p2), .val (.int p3), .val (.int p4), .val (.int (2 : Int32)), .val (.ref b19), .unset, .unset, .unset, .unset, .unset, .unset, .unset] [(.int p3), (.int p2), (.int p1), (.int (2 : Int32)), (.ref b19)])) rfl (by rw [hml]; rfl) (argsL := [(.ref b19), (.int (2 : Int32)), (.int p1), (.int p2), (.int p3)]) (rest := []) (lenOf pd1 rfl) rfl (by show 2 * 0 + _ ≤ _; exact Nat.le_of_eq rfl) (hb hby at_18) (fun _ _ => ⟨rfl, e19, (by decide : 1 + 0 ≤ _), (by decide : 2 + 0 ≤ _)⟩)
    dsimp only [Pt.U, Pt.locs, Pt.cells, Pt.slots] at X20 l20 y20 z20 st20 hQ20
    subst l20 y20 z20
    obtain ⟨rfl, N20q, K20, V20⟩ := hQ20
    have N20 := Fr.app N0 N20q
    have KK20 : Keep h0 T20.heap [] := Keep.trans K19 K20 (allS (Or.inr sz_b19) all0)
    refine own_go (T' := T20) (f' := (mkF m 25 #[.val (.int p0), .val (.int p1), .val (.int p2), .val (.int p3), .val (.int p4), .val (.int (2 : Int32)), .val (.ref b19), .unset, .unset, .unset, .unset, .unset, .unset, .unset] [(.int (3 : Int32))])) (fun _ k => st20 _ (XS.iload X20.here hx rfl (hb hby at_21) rfl (XS.iconst X20.here hx rfl (hb hby at_23) (XS.iadd X20.here hx rfl (hb hby at_24) rfl k)))) ?_
    obtain ⟨T21, h21, k21, X21, e21, E21, A21, st21⟩ := newP (aty := .byte) X20 hx hZ (ow0 hw) rfl (g := (mkF m 25 #[.val (.int p0), .val (.int p1), .val (.int p2), .val (.int p3), .val (.int p4), .val (.int (2 : Int32)), .val (.ref b19), .unset, .unset, .unset, .unset, .unset, .unset, .unset] [(.int (3 : Int32))])) rfl (hb hby at_25) rfl (by decide) (cap := 3) (by decide) (by decide) (by decide) (by decide)
    obtain ⟨b21, g_b21⟩ : ∃ z, z = T20.heap.size := ⟨_, rfl⟩
    have sg_b21 : T20.heap.size ≤ b21 := Nat.le_of_eq g_b21.symm
    rw [← g_b21] at A21 st21
    have n_b21 : n0 ≤ b21 := Nat.le_trans (Nat.le_trans (Nat.le_trans Z0 E19.1) K20.1) (Nat.le_of_eq g_b21.symm)
    have sz_b21 : h0.size ≤ b21 := Nat.le_trans KK20.1 (Nat.le_of_eq g_b21.symm)
    have K21 : Keep h0 h21 [] := KK20.ext E21
    have V_b21 : Arv Z h21 b21 k21 .byte (3 : Int32) [(.int (0 : Int32)), (.int (0 : Int32)), (.int (0 : Int32))] (.int (0 : Int32)) := (Arv.new A21 (by decide)).pad (pad_rep [] (.int (0 : Int32)) 3)
    refine own_go (T' := T21) (f' := (mkF m 35 #[.val (.int p0), .val (.int p1), .val (.int p2), .val (.int p3), .val (.int p4), .val (.int (2 : Int32)), .val (.ref b19), .val (.ref b21), .unset, .unset, .unset, .unset, .unset, .unset] [(.int p2), (.int p1), (.int (2 : Int32)), (.ref b21)])) (fun _ k => st21 _ (XS.astore X21.here hx rfl (hb hby at_27) rfl rfl (l' := #[.val (.int p0), .val (.int p1), .val (.int p2), .val (.int p3), .val (.int p4), .val (.int (2 : Int32)), .val (.ref b19), .val (.ref b21), .unset, .unset, .unset, .unset, .unset, .unset]) rfl (XS.aload X21.here hx rfl (hb hby at_29) rfl rfl (XS.iload X21.here hx rfl (hb hby at_31) rfl (XS.iloadN X21.here hx rfl (hb hby at_33) rfl (XS.iloadN X21.here hx rfl (hb hby at_34) rfl k)))))) ?_
    refine own_go (T' := T21) (f' := (mkF m 36 #[.val (.int p0), .val (.int p1), .val (.int p2), .val (.int p3), .val (.int p4), .val (.int (2 : Int32)), .val (.ref b19), .val (.ref b21), .unset, .unset, .unset, .unset, .unset, .unset] [(.int p3), (.int p2), (.int p1), (.int (2 : Int32)), (.ref b21)])) (fun _ k => XS.iloadN X21.here hx rfl (hb hby at_35) rfl k) ?_
    obtain ⟨_, _, ⟨T22, L22, k22, n22⟩, -, X22, ⟨Lc22, hQ22, l22, y22, z22⟩, st22⟩ := Jvm.LawKit.callS X21 hx (y := mn0) hown (mvT hZ (ow1 hw)) (mvT hZ (ow2 hw)) (mvT hZ (ow3 hw)) (mvT hZ (ow4 hw)) (by decide) (backOf (W := 0) (rm1_2_3 l Z a0 hw [] b21 p1 p2 p3 k21 h21 n0 (Nat.le_trans (Nat.le_trans (Nat.le_trans Z0 E19.1) K20.1) E21.1) V_b21 n_b21) hZ (ow4 hw) (ow3 hw) (by decide) (by decide)) (g := (mkF m 36 #[.val (.int p0), .val (.int p1), .val (.int p2), .val (.int p3), .val (.int p4), .val (.int (2 : Int32)), .val (.ref b19), .val (.ref b21), .unset, .unset, .unset, .unset, .unset, .unset] [(.int p3), (.int p2), (.int p1), (.int (2 : Int32)), (.ref b21)])) rfl (by rw [hml]; rfl) (argsL := [(.ref b21), (.int (2 : Int32)), (.int p1), (.int p2), (.int p3)]) (rest := []) (lenOf pd1 rfl) rfl (by show 2 * 0 + _ ≤ _; exact Nat.le_of_eq rfl) (hb hby at_36) (fun _ _ => ⟨rfl, e21, (by decide : 2 + 0 ≤ _), (by decide : 5 + 0 ≤ _)⟩)
    dsimp only [Pt.U, Pt.locs, Pt.cells, Pt.slots] at X22 l22 y22 z22 st22 hQ22
    subst l22 y22 z22
    obtain ⟨rfl, N22q, K22, V22⟩ := hQ22
    have N22 := Fr.app N20 N22q
    have KK22 : Keep h0 T22.heap [] := Keep.trans K21 K22 (allS (Or.inr sz_b21) all0)
    refine own_go (T' := T22) (f' := (mkF m 46 #[.val (.int p0), .val (.int p1), .val (.int p2), .val (.int p3), .val (.int p4), .val (.int (2 : Int32)), .val (.ref b19), .val (.ref b21), .unset, .unset, .unset, .unset, .unset, .unset] [(.int (p4.toInt8.toInt32)), (.int (2 : Int32)), (.ref b21)])) (fun _ k => st22 _ (XS.aload X22.here hx rfl (hb hby at_39) rfl rfl (XS.iload X22.here hx rfl (hb hby at_41) rfl (XS.iload X22.here hx rfl (hb hby at_43) rfl (XS.i2b X22.here hx rfl (hb hby at_45) rfl k))))) ?_
    obtain ⟨T23, h23, X23, e23, W23, V23, st23⟩ := own_stB X22 hx hZ rfl V22 (j := (2 : Int32)) ⟨by decide, by decide⟩ 2 rfl (Nat.le_of_ble_eq_true rfl) (g := (mkF m 46 #[.val (.int p0), .val (.int p1), .val (.int p2), .val (.int p3), .val (.int p4), .val (.int (2 : Int32)), .val (.ref b19), .val (.ref b21), .unset, .unset, .unset, .unset, .unset, .unset] [(.int (p4.toInt8.toInt32)), (.int (2 : Int32)), (.ref b21)])) rfl rfl (hb hby at_46)
    have K23 : Keep h0 h23 [] := KK22.wr W23 (Or.inr sz_b21)
    have N23 := Fr.snoc X23 N22 n_b21
    refine own_go (T' := T23) (f' := (mkF m 55 #[.val (.int p0), .val (.int p1), .val (.int p2), .val (.int p3), .val (.int p4), .val (.int (2 : Int32)), .val (.ref b19), .val (.ref b21), .unset, .unset, .unset, .unset, .unset, .unset] [(.long (((p4.toInt8.toInt32).toInt64) &&& (255 : Int64)))])) (fun _ k => st23 _ (XS.iload X23.here hx rfl (hb hby at_47) rfl (XS.i2b X23.here hx rfl (hb hby at_49) rfl (XS.i2l X23.here hx rfl (hb hby at_50) rfl (X23.ldc2Long hx hown (mvT hZ (ow5 hw)) (g := (mkF m 51 #[.val (.int p0), .val (.int p1), .val (.int p2), .val (.int p3), .val (.int p4), .val (.int (2 : Int32)), .val (.ref b19), .val (.ref b21), .unset, .unset, .unset, .unset, .unset, .unset] [(.long ((p4.toInt8.toInt32).toInt64))])) rfl (hb hby at_51) _ (XS.land X23.here hx rfl (hb hby at_54) rfl k)))))) ?_
    refine own_go (T' := T23) (f' := (mkF m 58 #[.val (.int p0), .val (.int p1), .val (.int p2), .val (.int p3), .val (.int p4), .val (.int (2 : Int32)), .val (.ref b19), .val (.ref b21), .val (.long (((p4.toInt8.toInt32).toInt64) &&& (255 : Int64))), .second, .unset, .unset, .unset, .unset] [(.int (0 : Int32))])) (fun _ k => XS.lstore X23.here hx rfl (hb hby at_55) rfl (l' := #[.val (.int p0), .val (.int p1), .val (.int p2), .val (.int p3), .val (.int p4), .val (.int (2 : Int32)), .val (.ref b19), .val (.ref b21), .val (.long (((p4.toInt8.toInt32).toInt64) &&& (255 : Int64))), .second, .unset, .unset, .unset, .unset]) rfl (XS.iconst X23.here hx rfl (hb hby at_57) k)) ?_
    obtain ⟨T24, h24, k24, X24, e24, E24, A24, st24⟩ := newP (aty := .byte) X23 hx hZ (ow0 hw) e23 (g := (mkF m 58 #[.val (.int p0), .val (.int p1), .val (.int p2), .val (.int p3), .val (.int p4), .val (.int (2 : Int32)), .val (.ref b19), .val (.ref b21), .val (.long (((p4.toInt8.toInt32).toInt64) &&& (255 : Int64))), .second, .unset, .unset, .unset, .unset] [(.int (0 : Int32))])) rfl (hb hby at_58) rfl (by decide) (cap := 0) (by decide) (by decide) (by decide) (by decide)
    obtain ⟨b24, g_b24⟩ : ∃ z, z = h23.size := ⟨_, rfl⟩
    have sg_b24 : h23.size ≤ b24 := Nat.le_of_eq g_b24.symm
    rw [← g_b24] at A24 st24
    have n_b24 : n0 ≤ b24 := Nat.le_trans (Nat.le_trans (Nat.le_trans (Nat.le_trans (Nat.le_trans (Nat.le_trans Z0 E19.1) K20.1) E21.1) K22.1) (Keep.of_wr W23).1) (Nat.le_of_eq g_b24.symm)
    have sz_b24 : h0.size ≤ b24 := Nat.le_trans K23.1 (Nat.le_of_eq g_b24.symm)
    have K24 : Keep h0 h24 [] := K23.ext E24
    have V_b24 : Arv Z h24 b24 k24 .byte (0 : Int32) [] (.int (0 : Int32)) := Arv.new A24 (by decide)
    refine own_go (T' := T24) (f' := (mkF m 60 #[.val (.int p0), .val (.int p1), .val (.int p2), .val (.int p3), .val (.int p4), .val (.int (2 : Int32)), .val (.ref b19), .val (.ref b21), .val (.long (((p4.toInt8.toInt32).toInt64) &&& (255 : Int64))), .second, .unset, .unset, .unset, .unset] [(.ref b24)])) (fun _ k => st24 _ k) ?_
    obtain ⟨_, _, ⟨T25, L25, k25, n25⟩, -, X25, ⟨Lc25, hQ25, l25, y25, z25⟩, st25⟩ := Jvm.LawKit.callS X24 hx (y := mn1) hown (mvT hZ (ow6 hw)) (mvT hZ (ow7 hw)) (mvT hZ (ow8 hw)) (mvT hZ (ow9 hw)) (by decide) (backOf (W := 0) (rm2_0 l Z a0 hw [] b24 k24  h24 n0 (Nat.le_trans (Nat.le_trans (Nat.le_trans (Nat.le_trans (Nat.le_trans (Nat.le_trans Z0 E19.1) K20.1) E21.1) K22.1) (Keep.of_wr W23).1) E24.1) V_b24) hZ (ow9 hw) (ow8 hw) (by decide) (by decide)) (g := (mkF m 60 #[.val (.int p0), .val (.int p1), .val (.int p2), .val (.int p3), .val (.int p4), .val (.int (2 : Int32)), .val (.ref b19), .val (.ref b21), .val (.long (((p4.toInt8.toInt32).toInt64) &&& (255 : Int64))), .second, .unset, .unset, .unset, .unset] [(.ref b24)])) rfl (by rw [hml]; rfl) (argsL := [(.ref b24)]) (rest := []) (lenOf pd0 rfl) rfl (by show 2 * 0 + _ ≤ _; exact Nat.le_of_eq rfl) (hb hby at_60) (fun _ _ => ⟨rfl, e24, (by decide : 3 + 0 ≤ _), (by decide : 5 + 0 ≤ _)⟩)
    dsimp only [Pt.U, Pt.locs, Pt.cells, Pt.slots] at X25 l25 y25 z25 st25 hQ25
    subst l25 y25 z25
    obtain ⟨rfl, N25q, hh25⟩ := hQ25
    have N25 := Fr.app N23 N25q
    refine own_go (T' := T25) (f' := (mkF m 75 #[.val (.int p0), .val (.int p1), .val (.int p2), .val (.int p3), .val (.int p4), .val (.int (2 : Int32)), .val (.ref b19), .val (.ref b21), .val (.long (((p4.toInt8.toInt32).toInt64) &&& (255 : Int64))), .second, .unset, .unset, .unset, .unset] [(.int (1 : Int32))])) (fun _ k => st25 _ (X25.ldc2Long hx hown (mvT hZ (ow11 hw)) (g := (mkF m 63 #[.val (.int p0), .val (.int p1), .val (.int p2), .val (.int p3), .val (.int p4), .val (.int (2 : Int32)), .val (.ref b19), .val (.ref b21), .val (.long (((p4.toInt8.toInt32).toInt64) &&& (255 : Int64))), .second, .unset, .unset, .unset, .unset] [(.long (own_fnv []))])) rfl (hb hby at_63) _ (XS.lcmp X25.here hx rfl (hb hby at_66) rfl (XS.ifNo X25.here hx rfl (hb hby at_67) rfl ((if0 _ _).trans (teq ((own_lc_eq (a := (own_fnv [])) (b := (-3750763034362895579 : Int64))).mpr rfl)).2) (XS.iconst X25.here hx rfl (hb hby at_70) (XS.goto X25.here hx rfl (pc0 := 71) (pc' := 75) rfl (hb hby at_71) (by decide) (by decide) k)))))) ?_
    refine own_go (T' := T25) (f' := (mkF m 79 #[.val (.int p0), .val (.int p1), .val (.int p2), .val (.int p3), .val (.int p4), .val (.int (2 : Int32)), .val (.ref b19), .val (.ref b21), .val (.long (((p4.toInt8.toInt32).toInt64) &&& (255 : Int64))), .second, .val (.int (1 : Int32)), .unset, .unset, .unset] [(.ref b19)])) (fun _ k => XS.istore X25.here hx rfl (hb hby at_75) rfl (l' := #[.val (.int p0), .val (.int p1), .val (.int p2), .val (.int p3), .val (.int p4), .val (.int (2 : Int32)), .val (.ref b19), .val (.ref b21), .val (.long (((p4.toInt8.toInt32).toInt64) &&& (255 : Int64))), .second, .val (.int (1 : Int32)), .unset, .unset, .unset]) rfl (XS.aload X25.here hx rfl (hb hby at_77) rfl rfl k)) ?_
    obtain ⟨_, _, ⟨T26, L26, k26, n26⟩, -, X26, ⟨Lc26, hQ26, l26, y26, z26⟩, st26⟩ := Jvm.LawKit.callS X25 hx (y := mn1) hown (mvT hZ (ow6 hw)) (mvT hZ (ow7 hw)) (mvT hZ (ow8 hw)) (mvT hZ (ow9 hw)) (by decide) (backOf (W := 0) (rm2_2 l Z a0 hw [] b19 k19 (nar .byte (p1.toInt8.toInt32)) (nar .byte (p2.toInt8.toInt32)) h24 n0 (Nat.le_trans (Nat.le_trans (Nat.le_trans (Nat.le_trans (Nat.le_trans (Nat.le_trans Z0 E19.1) K20.1) E21.1) K22.1) (Keep.of_wr W23).1) E24.1) ((((V20.ext E21).keep K22 (ninS (Nat.ne_of_lt (Nat.lt_of_lt_of_le (Nat.lt_of_lt_of_le V_b19.lt K20.1) sg_b21)) nin0)).other W23 (Nat.ne_of_lt (Nat.lt_of_lt_of_le (Nat.lt_of_lt_of_le V_b19.lt K20.1) sg_b21))).ext E24)) hZ (ow9 hw) (ow8 hw) (by decide) (by decide)) (g := (mkF m 79 #[.val (.int p0), .val (.int p1), .val (.int p2), .val (.int p3), .val (.int p4), .val (.int (2 : Int32)), .val (.ref b19), .val (.ref b21), .val (.long (((p4.toInt8.toInt32).toInt64) &&& (255 : Int64))), .second, .val (.int (1 : Int32)), .unset, .unset, .unset] [(.ref b19)])) rfl (by rw [hml]; rfl) (argsL := [(.ref b19)]) (rest := []) (lenOf pd0 rfl) rfl (by show 2 * 0 + _ ≤ _; exact Nat.le_of_eq rfl) (hb hby at_79) (fun _ _ => ⟨rfl, hh25, (by decide : 3 + 0 ≤ _), (by decide : 5 + 0 ≤ _)⟩)
    dsimp only [Pt.U, Pt.locs, Pt.cells, Pt.slots] at X26 l26 y26 z26 st26 hQ26
    subst l26 y26 z26
    obtain ⟨rfl, N26q, hh26⟩ := hQ26
    have N26 := Fr.app N25 N26q
    refine own_go (T' := T26) (f' := (mkF m 86 #[.val (.int p0), .val (.int p1), .val (.int p2), .val (.int p3), .val (.int p4), .val (.int (2 : Int32)), .val (.ref b19), .val (.ref b21), .val (.long (((p4.toInt8.toInt32).toInt64) &&& (255 : Int64))), .second, .val (.int (1 : Int32)), .val (.long (own_fnv [(nar .byte (p1.toInt8.toInt32)), (nar .byte (p2.toInt8.toInt32))])), .second, .unset] [(.ref b21)])) (fun _ k => st26 _ (XS.lstore X26.here hx rfl (hb hby at_82) rfl (l' := #[.val (.int p0), .val (.int p1), .val (.int p2), .val (.int p3), .val (.int p4), .val (.int (2 : Int32)), .val (.ref b19), .val (.ref b21), .val (.long (((p4.toInt8.toInt32).toInt64) &&& (255 : Int64))), .second, .val (.int (1 : Int32)), .val (.long (own_fnv [(nar .byte (p1.toInt8.toInt32)), (nar .byte (p2.toInt8.toInt32))])), .second, .unset]) rfl (XS.aload X26.here hx rfl (hb hby at_84) rfl rfl k))) ?_
    obtain ⟨_, _, ⟨T27, L27, k27, n27⟩, -, X27, ⟨Lc27, hQ27, l27, y27, z27⟩, st27⟩ := Jvm.LawKit.callS X26 hx (y := mn1) hown (mvT hZ (ow6 hw)) (mvT hZ (ow7 hw)) (mvT hZ (ow8 hw)) (mvT hZ (ow9 hw)) (by decide) (backOf (W := 0) (rm2_3 l Z a0 hw [] b21 k21 (nar .byte (p1.toInt8.toInt32)) (nar .byte (p2.toInt8.toInt32)) (nar .byte (p4.toInt8.toInt32)) h24 n0 (Nat.le_trans (Nat.le_trans (Nat.le_trans (Nat.le_trans (Nat.le_trans (Nat.le_trans Z0 E19.1) K20.1) E21.1) K22.1) (Keep.of_wr W23).1) E24.1) (V23.ext E24)) hZ (ow9 hw) (ow8 hw) (by decide) (by decide)) (g := (mkF m 86 #[.val (.int p0), .val (.int p1), .val (.int p2), .val (.int p3), .val (.int p4), .val (.int (2 : Int32)), .val (.ref b19), .val (.ref b21), .val (.long (((p4.toInt8.toInt32).toInt64) &&& (255 : Int64))), .second, .val (.int (1 : Int32)), .val (.long (own_fnv [(nar .byte (p1.toInt8.toInt32)), (nar .byte (p2.toInt8.toInt32))])), .second, .unset] [(.ref b21)])) rfl (by rw [hml]; rfl) (argsL := [(.ref b21)]) (rest := []) (lenOf pd0 rfl) rfl (by show 2 * 0 + _ ≤ _; exact Nat.le_of_eq rfl) (hb hby at_86) (fun _ _ => ⟨rfl, hh26, (by decide : 3 + 0 ≤ _), (by decide : 5 + 0 ≤ _)⟩)
    dsimp only [Pt.U, Pt.locs, Pt.cells, Pt.slots] at X27 l27 y27 z27 st27 hQ27
    subst l27 y27 z27
    obtain ⟨rfl, N27q, hh27⟩ := hQ27
    have N27 := Fr.app N26 N27q
    refine own_go (T' := T27) (f' := (mkF m 98 #[.val (.int p0), .val (.int p1), .val (.int p2), .val (.int p3), .val (.int p4), .val (.int (2 : Int32)), .val (.ref b19), .val (.ref b21), .val (.long (((p4.toInt8.toInt32).toInt64) &&& (255 : Int64))), .second, .val (.int (1 : Int32)), .val (.long (own_fnv [(nar .byte (p1.toInt8.toInt32)), (nar .byte (p2.toInt8.toInt32))])), .second, .unset] [(.long (((own_fnv [(nar .byte (p1.toInt8.toInt32)), (nar .byte (p2.toInt8.toInt32))]) ^^^ (((p4.toInt8.toInt32).toInt64) &&& (255 : Int64))) * (1099511628211 : Int64))), (.long (own_fnv [(nar .byte (p1.toInt8.toInt32)), (nar .byte (p2.toInt8.toInt32)), (nar .byte (p4.toInt8.toInt32))]))])) (fun _ k => st27 _ (XS.lload X27.here hx rfl (hb hby at_89) rfl (XS.lload X27.here hx rfl (hb hby at_91) rfl (XS.lxor X27.here hx rfl (hb hby at_93) rfl (X27.ldc2Long hx hown (mvT hZ (ow13 hw)) (g := (mkF m 94 #[.val (.int p0), .val (.int p1), .val (.int p2), .val (.int p3), .val (.int p4), .val (.int (2 : Int32)), .val (.ref b19), .val (.ref b21), .val (.long (((p4.toInt8.toInt32).toInt64) &&& (255 : Int64))), .second, .val (.int (1 : Int32)), .val (.long (own_fnv [(nar .byte (p1.toInt8.toInt32)), (nar .byte (p2.toInt8.toInt32))])), .second, .unset] [(.long ((own_fnv [(nar .byte (p1.toInt8.toInt32)), (nar .byte (p2.toInt8.toInt32))]) ^^^ (((p4.toInt8.toInt32).toInt64) &&& (255 : Int64)))), (.long (own_fnv [(nar .byte (p1.toInt8.toInt32)), (nar .byte (p2.toInt8.toInt32)), (nar .byte (p4.toInt8.toInt32))]))])) rfl (hb hby at_94) _ (XS.lmul X27.here hx rfl (hb hby at_97) rfl k)))))) ?_
    refine own_go (T' := T27) (f' := (mkF m 111 #[.val (.int p0), .val (.int p1), .val (.int p2), .val (.int p3), .val (.int p4), .val (.int (2 : Int32)), .val (.ref b19), .val (.ref b21), .val (.long (((p4.toInt8.toInt32).toInt64) &&& (255 : Int64))), .second, .val (.int (1 : Int32)), .val (.long (own_fnv [(nar .byte (p1.toInt8.toInt32)), (nar .byte (p2.toInt8.toInt32))])), .second, .val (.int (1 : Int32))] [(.int (1 : Int32))])) (fun _ k => XS.lcmp X27.here hx rfl (hb hby at_98) rfl (XS.ifNo X27.here hx rfl (hb hby at_99) rfl ((if0 _ _).trans (teq ((own_lc_eq (a := (own_fnv [(nar .byte (p1.toInt8.toInt32)), (nar .byte (p2.toInt8.toInt32)), (nar .byte (p4.toInt8.toInt32))])) (b := (((own_fnv [(nar .byte (p1.toInt8.toInt32)), (nar .byte (p2.toInt8.toInt32))]) ^^^ (((p4.toInt8.toInt32).toInt64) &&& (255 : Int64))) * (1099511628211 : Int64)))).mpr (own_step [(nar .byte (p1.toInt8.toInt32)), (nar .byte (p2.toInt8.toInt32))] p4))).2) (XS.iconst X27.here hx rfl (hb hby at_102) (XS.goto X27.here hx rfl (pc0 := 103) (pc' := 107) rfl (hb hby at_103) (by decide) (by decide) (XS.istore X27.here hx rfl (hb hby at_107) rfl (l' := #[.val (.int p0), .val (.int p1), .val (.int p2), .val (.int p3), .val (.int p4), .val (.int (2 : Int32)), .val (.ref b19), .val (.ref b21), .val (.long (((p4.toInt8.toInt32).toInt64) &&& (255 : Int64))), .second, .val (.int (1 : Int32)), .val (.long (own_fnv [(nar .byte (p1.toInt8.toInt32)), (nar .byte (p2.toInt8.toInt32))])), .second, .val (.int (1 : Int32))]) rfl (XS.iload X27.here hx rfl (hb hby at_109) rfl k)))))) ?_
    refine own_go (T' := T27) (f' := (mkF m 124 #[.val (.int p0), .val (.int p1), .val (.int p2), .val (.int p3), .val (.int p4), .val (.int (2 : Int32)), .val (.ref b19), .val (.ref b21), .val (.long (((p4.toInt8.toInt32).toInt64) &&& (255 : Int64))), .second, .val (.int (1 : Int32)), .val (.long (own_fnv [(nar .byte (p1.toInt8.toInt32)), (nar .byte (p2.toInt8.toInt32))])), .second, .val (.int (1 : Int32))] [(.int (1 : Int32))])) (fun _ k => XS.ifNo X27.here hx rfl (hb hby at_111) rfl ((if0 _ _).trans (feq (by decide : ¬ ((1 : Int32) = (0 : Int32)))).1) (XS.iload X27.here hx rfl (hb hby at_114) rfl (XS.ifNo X27.here hx rfl (hb hby at_116) rfl ((if0 _ _).trans (feq (by decide : ¬ ((1 : Int32) = (0 : Int32)))).1) (XS.iconst X27.here hx rfl (hb hby at_119) (XS.goto X27.here hx rfl (pc0 := 120) (pc' := 124) rfl (hb hby at_120) (by decide) (by decide) k))))) ?_
    refine own_ret X27 (v := some (.int (1 : Int32))) (fun h => by rw [Bd.returns] at h; cases h) Bd.notSynchronized (fun fs hr => retN X27 hx (t := .boolean) Bd.returns (by simp) (hb hby at_124) hr) ?_ (by decide) (by decide)
    show Q0 Z p0 p1 p2 p3 p4 h0 n0 _ T27.heap _
    exact ⟨rfl, N27⟩
  · refine own_go (T' := s₁) (f' := (mkF m 7 #[.val (.int p0), .val (.int p1), .val (.int p2), .val (.int p3), .val (.int p4), .val (.int (3 : Int32)), .unset, .unset, .unset, .unset, .unset, .unset, .unset, .unset] [(.int (3 : Int32))])) (fun _ k => XS.iload X0.here hx rfl (hb hby at_5) rfl k) ?_
    obtain ⟨T28, h28, k28, X28, e28, E28, A28, st28⟩ := newP (aty := .byte) X0 hx hZ (ow0 hw) e0 (g := (mkF m 7 #[.val (.int p0), .val (.int p1), .val (.int p2), .val (.int p3), .val (.int p4), .val (.int (3 : Int32)), .unset, .unset, .unset, .unset, .unset, .unset, .unset, .unset] [(.int (3 : Int32))])) rfl (hb hby at_7) rfl (by decide) (cap := 3) (by decide) (by decide) (by decide) (by decide)
    obtain ⟨b28, g_b28⟩ : ∃ z, z = h0.size := ⟨_, rfl⟩
    have sg_b28 : h0.size ≤ b28 := Nat.le_of_eq g_b28.symm
    rw [← g_b28] at A28 st28
    have n_b28 : n0 ≤ b28 := Nat.le_trans Z0 (Nat.le_of_eq g_b28.symm)
    have sz_b28 : h0.size ≤ b28 := Nat.le_trans (Keep.refl h0 []).1 (Nat.le_of_eq g_b28.symm)
    have K28 : Keep h0 h28 [] := (Keep.refl h0 []).ext E28
    have V_b28 : Arv Z h28 b28 k28 .byte (3 : Int32) [(.int (0 : Int32)), (.int (0 : Int32)), (.int (0 : Int32))] (.int (0 : Int32)) := (Arv.new A28 (by decide)).pad (pad_rep [] (.int (0 : Int32)) 3)
    refine own_go (T' := T28) (f' := (mkF m 17 #[.val (.int p0), .val (.int p1), .val (.int p2), .val (.int p3), .val (.int p4), .val (.int (3 : Int32)), .val (.ref b28), .unset, .unset, .unset, .unset, .unset, .unset, .unset] [(.int p2), (.int p1), (.int (3 : Int32)), (.ref b28)])) (fun _ k => st28 _ (XS.astore X28.here hx rfl (hb hby at_9) rfl rfl (l' := #[.val (.int p0), .val (.int p1), .val (.int p2), .val (.int p3), .val (.int p4), .val (.int (3 : Int32)), .val (.ref b28), .unset, .unset, .unset, .unset, .unset, .unset, .unset]) rfl (XS.aload X28.here hx rfl (hb hby at_11) rfl rfl (XS.iload X28.here hx rfl (hb hby at_13) rfl (XS.iloadN X28.here hx rfl (hb hby at_15) rfl (XS.iloadN X28.here hx rfl (hb hby at_16) rfl k)))))) ?_
    refine own_go (T' := T28) (f' := (mkF m 18 #[.val (.int p0), .val (.int p1), .val (.int p2), .val (.int p3), .val (.int p4), .val (.int (3 : Int32)), .val (.ref b28), .unset, .unset, .unset, .unset, .unset, .unset, .unset] [(.int p3), (.int p2), (.int p1), (.int (3 : Int32)), (.ref b28)])) (fun _ k => XS.iloadN X28.here hx rfl (hb hby at_17) rfl k) ?_
    obtain ⟨_, _, ⟨T29, L29, k29, n29⟩, -, X29, ⟨Lc29, hQ29, l29, y29, z29⟩, st29⟩ := Jvm.LawKit.callS X28 hx (y := mn0) hown (mvT hZ (ow1 hw)) (mvT hZ (ow2 hw)) (mvT hZ (ow3 hw)) (mvT hZ (ow4 hw)) (by decide) (backOf (W := 0) (rm1_3_3 l Z a0 hw [] b28 p1 p2 p3 k28 h28 n0 (Nat.le_trans Z0 E28.1) V_b28 n_b28) hZ (ow4 hw) (ow3 hw) (by decide) (by decide)) (g := (mkF m 18 #[.val (.int p0), .val (.int p1), .val (.int p2), .val (.int p3), .val (.int p4), .val (.int (3 : Int32)), .val (.ref b28), .unset, .unset, .unset, .unset, .unset, .unset, .unset] [(.int p3), (.int p2), (.int p1), (.int (3 : Int32)), (.ref b28)])) rfl (by rw [hml]; rfl) (argsL := [(.ref b28), (.int (3 : Int32)), (.int p1), (.int p2), (.int p3)]) (rest := []) (lenOf pd1 rfl) rfl (by show 2 * 0 + _ ≤ _; exact Nat.le_of_eq rfl) (hb hby at_18) (fun _ _ => ⟨rfl, e28, (by decide : 1 + 0 ≤ _), (by decide : 3 + 0 ≤ _)⟩)
    dsimp only [Pt.U, Pt.locs, Pt.cells, Pt.slots] at X29 l29 y29 z29 st29 hQ29
    subst l29 y29 z29
    obtain ⟨rfl, N29q, K29, V29⟩ := hQ29
    have N29 := Fr.app N0 N29q
    have KK29 : Keep h0 T29.heap [] := Keep.trans K28 K29 (allS (Or.inr sz_b28) all0)
    refine own_go (T' := T29) (f' := (mkF m 25 #[.val (.int p0), .val (.int p1), .val (.int p2), .val (.int p3), .val (.int p4), .val (.int (3 : Int32)), .val (.ref b28), .unset, .unset, .unset, .unset, .unset, .unset, .unset] [(.int (4 : Int32))])) (fun _ k => st29 _ (XS.iload X29.here hx rfl (hb hby at_21) rfl (XS.iconst X29.here hx rfl (hb hby at_23) (XS.iadd X29.here hx rfl (hb hby at_24) rfl k)))) ?_
    obtain ⟨T30, h30, k30, X30, e30, E30, A30, st30⟩ := newP (aty := .byte) X29 hx hZ (ow0 hw) rfl (g := (mkF m 25 #[.val (.int p0), .val (.int p1), .val (.int p2), .val (.int p3), .val (.int p4), .val (.int (3 : Int32)), .val (.ref b28), .unset, .unset, .unset, .unset, .unset, .unset, .unset] [(.int (4 : Int32))])) rfl (hb hby at_25) rfl (by decide) (cap := 4) (by decide) (by decide) (by decide) (by decide)
    obtain ⟨b30, g_b30⟩ : ∃ z, z = T29.heap.size := ⟨_, rfl⟩
    have sg_b30 : T29.heap.size ≤ b30 := Nat.le_of_eq g_b30.symm
    rw [← g_b30] at A30 st30
    have n_b30 : n0 ≤ b30 := Nat.le_trans (Nat.le_trans (Nat.le_trans Z0 E28.1) K29.1) (Nat.le_of_eq g_b30.symm)
    have sz_b30 : h0.size ≤ b30 := Nat.le_trans KK29.1 (Nat.le_of_eq g_b30.symm)
    have K30 : Keep h0 h30 [] := KK29.ext E30
    have V_b30 : Arv Z h30 b30 k30 .byte (4 : Int32) [(.int (0 : Int32)), (.int (0 : Int32)), (.int (0 : Int32)), (.int (0 : Int32))] (.int (0 : Int32)) := (Arv.new A30 (by decide)).pad (pad_rep [] (.int (0 : Int32)) 4)
    refine own_go (T' := T30) (f' := (mkF m 35 #[.val (.int p0), .val (.int p1), .val (.int p2), .val (.int p3), .val (.int p4), .val (.int (3 : Int32)), .val (.ref b28), .val (.ref b30), .unset, .unset, .unset, .unset, .unset, .unset] [(.int p2), (.int p1), (.int (3 : Int32)), (.ref b30)])) (fun _ k => st30 _ (XS.astore X30.here hx rfl (hb hby at_27) rfl rfl (l' := #[.val (.int p0), .val (.int p1), .val (.int p2), .val (.int p3), .val (.int p4), .val (.int (3 : Int32)), .val (.ref b28), .val (.ref b30), .unset, .unset, .unset, .unset, .unset, .unset]) rfl (XS.aload X30.here hx rfl (hb hby at_29) rfl rfl (XS.iload X30.here hx rfl (hb hby at_31) rfl (XS.iloadN X30.here hx rfl (hb hby at_33) rfl (XS.iloadN X30.here hx rfl (hb hby at_34) rfl k)))))) ?_
    refine own_go (T' := T30) (f' := (mkF m 36 #[.val (.int p0), .val (.int p1), .val (.int p2), .val (.int p3), .val (.int p4), .val (.int (3 : Int32)), .val (.ref b28), .val (.ref b30), .unset, .unset, .unset, .unset, .unset, .unset] [(.int p3), (.int p2), (.int p1), (.int (3 : Int32)), (.ref b30)])) (fun _ k => XS.iloadN X30.here hx rfl (hb hby at_35) rfl k) ?_
    obtain ⟨_, _, ⟨T31, L31, k31, n31⟩, -, X31, ⟨Lc31, hQ31, l31, y31, z31⟩, st31⟩ := Jvm.LawKit.callS X30 hx (y := mn0) hown (mvT hZ (ow1 hw)) (mvT hZ (ow2 hw)) (mvT hZ (ow3 hw)) (mvT hZ (ow4 hw)) (by decide) (backOf (W := 0) (rm1_3_4 l Z a0 hw [] b30 p1 p2 p3 k30 h30 n0 (Nat.le_trans (Nat.le_trans (Nat.le_trans Z0 E28.1) K29.1) E30.1) V_b30 n_b30) hZ (ow4 hw) (ow3 hw) (by decide) (by decide)) (g := (mkF m 36 #[.val (.int p0), .val (.int p1), .val (.int p2), .val (.int p3), .val (.int p4), .val (.int (3 : Int32)), .val (.ref b28), .val (.ref b30), .unset, .unset, .unset, .unset, .unset, .unset] [(.int p3), (.int p2), (.int p1), (.int (3 : Int32)), (.ref b30)])) rfl (by rw [hml]; rfl) (argsL := [(.ref b30), (.int (3 : Int32)), (.int p1), (.int p2), (.int p3)]) (rest := []) (lenOf pd1 rfl) rfl (by show 2 * 0 + _ ≤ _; exact Nat.le_of_eq rfl) (hb hby at_36) (fun _ _ => ⟨rfl, e30, (by decide : 2 + 0 ≤ _), (by decide : 7 + 0 ≤ _)⟩)
    dsimp only [Pt.U, Pt.locs, Pt.cells, Pt.slots] at X31 l31 y31 z31 st31 hQ31
    subst l31 y31 z31
    obtain ⟨rfl, N31q, K31, V31⟩ := hQ31
    have N31 := Fr.app N29 N31q
    have KK31 : Keep h0 T31.heap [] := Keep.trans K30 K31 (allS (Or.inr sz_b30) all0)
    refine own_go (T' := T31) (f' := (mkF m 46 #[.val (.int p0), .val (.int p1), .val (.int p2), .val (.int p3), .val (.int p4), .val (.int (3 : Int32)), .val (.ref b28), .val (.ref b30), .unset, .unset, .unset, .unset, .unset, .unset] [(.int (p4.toInt8.toInt32)), (.int (3 : Int32)), (.ref b30)])) (fun _ k => st31 _ (XS.aload X31.here hx rfl (hb hby at_39) rfl rfl (XS.iload X31.here hx rfl (hb hby at_41) rfl (XS.iload X31.here hx rfl (hb hby at_43) rfl (XS.i2b X31.here hx rfl (hb hby at_45) rfl k))))) ?_
    obtain ⟨T32, h32, X32, e32, W32, V32, st32⟩ := own_stB X31 hx hZ rfl V31 (j := (3 : Int32)) ⟨by decide, by decide⟩ 3 rfl (Nat.le_of_ble_eq_true rfl) (g := (mkF m 46 #[.val (.int p0), .val (.int p1), .val (.int p2), .val (.int p3), .val (.int p4), .val (.int (3 : Int32)), .val (.ref b28), .val (.ref b30), .unset, .unset, .unset, .unset, .unset, .unset] [(.int (p4.toInt8.toInt32)), (.int (3 : Int32)), (.ref b30)])) rfl rfl (hb hby at_46)
    have K32 : Keep h0 h32 [] := KK31.wr W32 (Or.inr sz_b30)
    have N32 := Fr.snoc X32 N31 n_b30
    refine own_go (T' := T32) (f' := (mkF m 55 #[.val (.int p0), .val (.int p1), .val (.int p2), .val (.int p3), .val (.int p4), .val (.int (3 : Int32)), .val (.ref b28), .val (.ref b30), .unset, .unset, .unset, .unset, .unset, .unset] [(.long (((p4.toInt8.toInt32).toInt64) &&& (255 : Int64)))])) (fun _ k => st32 _ (XS.iload X32.here hx rfl (hb hby at_47) rfl (XS.i2b X32.here hx rfl (hb hby at_49) rfl (XS.i2l X32.here hx rfl (hb hby at_50) rfl (X32.ldc2Long hx hown (mvT hZ (ow5 hw)) (g := (mkF m 51 #[.val (.int p0), .val (.int p1), .val (.int p2), .val (.int p3), .val (.int p4), .val (.int (3 : Int32)), .val (.ref b28), .val (.ref b30), .unset, .unset, .unset, .unset, .unset, .unset] [(.long ((p4.toInt8.toInt32).toInt64))])) rfl (hb hby at_51) _ (XS.land X32.here hx rfl (hb hby at_54) rfl k)))))) ?_
    refine own_go (T' := T32) (f' := (mkF m 58 #[.val (.int p0), .val (.int p1), .val (.int p2), .val (.int p3), .val (.int p4), .val (.int (3 : Int32)), .val (.ref b28), .val (.ref b30), .val (.long (((p4.toInt8.toInt32).toInt64) &&& (255 : Int64))), .second, .unset, .unset, .unset, .unset] [(.int (0 : Int32))])) (fun _ k => XS.lstore X32.here hx rfl (hb hby at_55) rfl (l' := #[.val (.int p0), .val (.int p1), .val (.int p2), .val (.int p3), .val (.int p4), .val (.int (3 : Int32)), .val (.ref b28), .val (.ref b30), .val (.long (((p4.toInt8.toInt32).toInt64) &&& (255 : Int64))), .second, .unset, .unset, .unset, .unset]) rfl (XS.iconst X32.here hx rfl (hb hby at_57) k)) ?_
    obtain ⟨T33, h33, k33, X33, e33, E33, A33, st33⟩ := newP (aty := .byte) X32 hx hZ (ow0 hw) e32 (g := (mkF m 58 #[.val (.int p0), .val (.int p1), .val (.int p2), .val (.int p3), .val (.int p4), .val (.int (3 : Int32)), .val (.ref b28), .val (.ref b30), .val (.long (((p4.toInt8.toInt32).toInt64) &&& (255 : Int64))), .second, .unset, .unset, .unset, .unset] [(.int (0 : Int32))])) rfl (hb hby at_58) rfl (by decide) (cap := 0) (by decide) (by decide) (by decide) (by decide)
    obtain ⟨b33, g_b33⟩ : ∃ z, z = h32.size := ⟨_, rfl⟩
    have sg_b33 : h32.size ≤ b33 := Nat.le_of_eq g_b33.symm
    rw [← g_b33] at A33 st33
    have n_b33 : n0 ≤ b33 := Nat.le_trans (Nat.le_trans (Nat.le_trans (Nat.le_trans (Nat.le_trans (Nat.le_trans Z0 E28.1) K29.1) E30.1) K31.1) (Keep.of_wr W32).1) (Nat.le_of_eq g_b33.symm)
    have sz_b33 : h0.size ≤ b33 := Nat.le_trans K32.1 (Nat.le_of_eq g_b33.symm)
    have K33 : Keep h0 h33 [] := K32.ext E33
    have V_b33 : Arv Z h33 b33 k33 .byte (0 : Int32) [] (.int (0 : Int32)) := Arv.new A33 (by decide)
    refine own_go (T' := T33) (f' := (mkF m 60 #[.val (.int p0), .val (.int p1), .val (.int p2), .val (.int p3), .val (.int p4), .val (.int (3 : Int32)), .val (.ref b28), .val (.ref b30), .val (.long (((p4.toInt8.toInt32).toInt64) &&& (255 : Int64))), .second, .unset, .unset, .unset, .unset] [(.ref b33)])) (fun _ k => st33 _ k) ?_
    obtain ⟨_, _, ⟨T34, L34, k34, n34⟩, -, X34, ⟨Lc34, hQ34, l34, y34, z34⟩, st34⟩ := Jvm.LawKit.callS X33 hx (y := mn1) hown (mvT hZ (ow6 hw)) (mvT hZ (ow7 hw)) (mvT hZ (ow8 hw)) (mvT hZ (ow9 hw)) (by decide) (backOf (W := 0) (rm2_0 l Z a0 hw [] b33 k33  h33 n0 (Nat.le_trans (Nat.le_trans (Nat.le_trans (Nat.le_trans (Nat.le_trans (Nat.le_trans Z0 E28.1) K29.1) E30.1) K31.1) (Keep.of_wr W32).1) E33.1) V_b33) hZ (ow9 hw) (ow8 hw) (by decide) (by decide)) (g := (mkF m 60 #[.val (.int p0), .val (.int p1), .val (.int p2), .val (.int p3), .val (.int p4), .val (.int (3 : Int32)), .val (.ref b28), .val (.ref b30), .val (.long (((p4.toInt8.toInt32).toInt64) &&& (255 : Int64))), .second, .unset, .unset, .unset, .unset] [(.ref b33)])) rfl (by rw [hml]; rfl) (argsL := [(.ref b33)]) (rest := []) (lenOf pd0 rfl) rfl (by show 2 * 0 + _ ≤ _; exact Nat.le_of_eq rfl) (hb hby at_60) (fun _ _ => ⟨rfl, e33, (by decide : 3 + 0 ≤ _), (by decide : 7 + 0 ≤ _)⟩)
    dsimp only [Pt.U, Pt.locs, Pt.cells, Pt.slots] at X34 l34 y34 z34 st34 hQ34
    subst l34 y34 z34
    obtain ⟨rfl, N34q, hh34⟩ := hQ34
    have N34 := Fr.app N32 N34q
    refine own_go (T' := T34) (f' := (mkF m 75 #[.val (.int p0), .val (.int p1), .val (.int p2), .val (.int p3), .val (.int p4), .val (.int (3 : Int32)), .val (.ref b28), .val (.ref b30), .val (.long (((p4.toInt8.toInt32).toInt64) &&& (255 : Int64))), .second, .unset, .unset, .unset, .unset] [(.int (1 : Int32))])) (fun _ k => st34 _ (X34.ldc2Long hx hown (mvT hZ (ow11 hw)) (g := (mkF m 63 #[.val (.int p0), .val (.int p1), .val (.int p2), .val (.int p3), .val (.int p4), .val (.int (3 : Int32)), .val (.ref b28), .val (.ref b30), .val (.long (((p4.toInt8.toInt32).toInt64) &&& (255 : Int64))), .second, .unset, .unset, .unset, .unset] [(.long (own_fnv []))])) rfl (hb hby at_63) _ (XS.lcmp X34.here hx rfl (hb hby at_66) rfl (XS.ifNo X34.here hx rfl (hb hby at_67) rfl ((if0 _ _).trans (teq ((own_lc_eq (a := (own_fnv [])) (b := (-3750763034362895579 : Int64))).mpr rfl)).2) (XS.iconst X34.here hx rfl (hb hby at_70) (XS.goto X34.here hx rfl (pc0 := 71) (pc' := 75) rfl (hb hby at_71) (by decide) (by decide) k)))))) ?_
    refine own_go (T' := T34) (f' := (mkF m 79 #[.val (.int p0), .val (.int p1), .val (.int p2), .val (.int p3), .val (.int p4), .val (.int (3 : Int32)), .val (.ref b28), .val (.ref b30), .val (.long (((p4.toInt8.toInt32).toInt64) &&& (255 : Int64))), .second, .val (.int (1 : Int32)), .unset, .unset, .unset] [(.ref b28)])) (fun _ k => XS.istore X34.here hx rfl (hb hby at_75) rfl (l' := #[.val (.int p0), .val (.int p1), .val (.int p2), .val (.int p3), .val (.int p4), .val (.int (3 : Int32)), .val (.ref b28), .val (.ref b30), .val (.long (((p4.toInt8.toInt32).toInt64) &&& (255 : Int64))), .second, .val (.int (1 : Int32)), .unset, .unset, .unset]) rfl (XS.aload X34.here hx rfl (hb hby at_77) rfl rfl k)) ?_
    obtain ⟨_, _, ⟨T35, L35, k35, n35⟩, -, X35, ⟨Lc35, hQ35, l35, y35, z35⟩, st35⟩ := Jvm.LawKit.callS X34 hx (y := mn1) hown (mvT hZ (ow6 hw)) (mvT hZ (ow7 hw)) (mvT hZ (ow8 hw)) (mvT hZ (ow9 hw)) (by decide) (backOf (W := 0) (rm2_3 l Z a0 hw [] b28 k28 (nar .byte (p1.toInt8.toInt32)) (nar .byte (p2.toInt8.toInt32)) (nar .byte (p3.toInt8.toInt32)) h33 n0 (Nat.le_trans (Nat.le_trans (Nat.le_trans (Nat.le_trans (Nat.le_trans (Nat.le_trans Z0 E28.1) K29.1) E30.1) K31.1) (Keep.of_wr W32).1) E33.1) ((((V29.ext E30).keep K31 (ninS (Nat.ne_of_lt (Nat.lt_of_lt_of_le (Nat.lt_of_lt_of_le V_b28.lt K29.1) sg_b30)) nin0)).other W32 (Nat.ne_of_lt (Nat.lt_of_lt_of_le (Nat.lt_of_lt_of_le V_b28.lt K29.1) sg_b30))).ext E33)) hZ (ow9 hw) (ow8 hw) (by decide) (by decide)) (g := (mkF m 79 #[.val (.int p0), .val (.int p1), .val (.int p2), .val (.int p3), .val (.int p4), .val (.int (3 : Int32)), .val (.ref b28), .val (.ref b30), .val (.long (((p4.toInt8.toInt32).toInt64) &&& (255 : Int64))), .second, .val (.int (1 : Int32)), .unset, .unset, .unset] [(.ref b28)])) rfl (by rw [hml]; rfl) (argsL := [(.ref b28)]) (rest := []) (lenOf pd0 rfl) rfl (by show 2 * 0 + _ ≤ _; exact Nat.le_of_eq rfl) (hb hby at_79) (fun _ _ => ⟨rfl, hh34, (by decide : 3 + 0 ≤ _), (by decide : 7 + 0 ≤ _)⟩)
    dsimp only [Pt.U, Pt.locs, Pt.cells, Pt.slots] at X35 l35 y35 z35 st35 hQ35
    subst l35 y35 z35
    obtain ⟨rfl, N35q, hh35⟩ := hQ35
    have N35 := Fr.app N34 N35q
    refine own_go (T' := T35) (f' := (mkF m 86 #[.val (.int p0), .val (.int p1), .val (.int p2), .val (.int p3), .val (.int p4), .val (.int (3 : Int32)), .val (.ref b28), .val (.ref b30), .val (.long (((p4.toInt8.toInt32).toInt64) &&& (255 : Int64))), .second, .val (.int (1 : Int32)), .val (.long (own_fnv [(nar .byte (p1.toInt8.toInt32)), (nar .byte (p2.toInt8.toInt32)), (nar .byte (p3.toInt8.toInt32))])), .second, .unset] [(.ref b30)])) (fun _ k => st35 _ (XS.lstore X35.here hx rfl (hb hby at_82) rfl (l' := #[.val (.int p0), .val (.int p1), .val (.int p2), .val (.int p3), .val (.int p4), .val (.int (3 : Int32)), .val (.ref b28), .val (.ref b30), .val (.long (((p4.toInt8.toInt32).toInt64) &&& (255 : Int64))), .second, .val (.int (1 : Int32)), .val (.long (own_fnv [(nar .byte (p1.toInt8.toInt32)), (nar .byte (p2.toInt8.toInt32)), (nar .byte (p3.toInt8.toInt32))])), .second, .unset]) rfl (XS.aload X35.here hx rfl (hb hby at_84) rfl rfl k))) ?_
    obtain ⟨_, _, ⟨T36, L36, k36, n36⟩, -, X36, ⟨Lc36, hQ36, l36, y36, z36⟩, st36⟩ := Jvm.LawKit.callS X35 hx (y := mn1) hown (mvT hZ (ow6 hw)) (mvT hZ (ow7 hw)) (mvT hZ (ow8 hw)) (mvT hZ (ow9 hw)) (by decide) (backOf (W := 0) (rm2_4 l Z a0 hw [] b30 k30 (nar .byte (p1.toInt8.toInt32)) (nar .byte (p2.toInt8.toInt32)) (nar .byte (p3.toInt8.toInt32)) (nar .byte (p4.toInt8.toInt32)) h33 n0 (Nat.le_trans (Nat.le_trans (Nat.le_trans (Nat.le_trans (Nat.le_trans (Nat.le_trans Z0 E28.1) K29.1) E30.1) K31.1) (Keep.of_wr W32).1) E33.1) (V32.ext E33)) hZ (ow9 hw) (ow8 hw) (by decide) (by decide)) (g := (mkF m 86 #[.val (.int p0), .val (.int p1), .val (.int p2), .val (.int p3), .val (.int p4), .val (.int (3 : Int32)), .val (.ref b28), .val (.ref b30), .val (.long (((p4.toInt8.toInt32).toInt64) &&& (255 : Int64))), .second, .val (.int (1 : Int32)), .val (.long (own_fnv [(nar .byte (p1.toInt8.toInt32)), (nar .byte (p2.toInt8.toInt32)), (nar .byte (p3.toInt8.toInt32))])), .second, .unset] [(.ref b30)])) rfl (by rw [hml]; rfl) (argsL := [(.ref b30)]) (rest := []) (lenOf pd0 rfl) rfl (by show 2 * 0 + _ ≤ _; exact Nat.le_of_eq rfl) (hb hby at_86) (fun _ _ => ⟨rfl, hh35, (by decide : 3 + 0 ≤ _), (by decide : 7 + 0 ≤ _)⟩)
    dsimp only [Pt.U, Pt.locs, Pt.cells, Pt.slots] at X36 l36 y36 z36 st36 hQ36
    subst l36 y36 z36
    obtain ⟨rfl, N36q, hh36⟩ := hQ36
    have N36 := Fr.app N35 N36q
    refine own_go (T' := T36) (f' := (mkF m 98 #[.val (.int p0), .val (.int p1), .val (.int p2), .val (.int p3), .val (.int p4), .val (.int (3 : Int32)), .val (.ref b28), .val (.ref b30), .val (.long (((p4.toInt8.toInt32).toInt64) &&& (255 : Int64))), .second, .val (.int (1 : Int32)), .val (.long (own_fnv [(nar .byte (p1.toInt8.toInt32)), (nar .byte (p2.toInt8.toInt32)), (nar .byte (p3.toInt8.toInt32))])), .second, .unset] [(.long (((own_fnv [(nar .byte (p1.toInt8.toInt32)), (nar .byte (p2.toInt8.toInt32)), (nar .byte (p3.toInt8.toInt32))]) ^^^ (((p4.toInt8.toInt32).toInt64) &&& (255 : Int64))) * (1099511628211 : Int64))), (.long (own_fnv [(nar .byte (p1.toInt8.toInt32)), (nar .byte (p2.toInt8.toInt32)), (nar .byte (p3.toInt8.toInt32)), (nar .byte (p4.toInt8.toInt32))]))])) (fun _ k => st36 _ (XS.lload X36.here hx rfl (hb hby at_89) rfl (XS.lload X36.here hx rfl (hb hby at_91) rfl (XS.lxor X36.here hx rfl (hb hby at_93) rfl (X36.ldc2Long hx hown (mvT hZ (ow13 hw)) (g := (mkF m 94 #[.val (.int p0), .val (.int p1), .val (.int p2), .val (.int p3), .val (.int p4), .val (.int (3 : Int32)), .val (.ref b28), .val (.ref b30), .val (.long (((p4.toInt8.toInt32).toInt64) &&& (255 : Int64))), .second, .val (.int (1 : Int32)), .val (.long (own_fnv [(nar .byte (p1.toInt8.toInt32)), (nar .byte (p2.toInt8.toInt32)), (nar .byte (p3.toInt8.toInt32))])), .second, .unset] [(.long ((own_fnv [(nar .byte (p1.toInt8.toInt32)), (nar .byte (p2.toInt8.toInt32)), (nar .byte (p3.toInt8.toInt32))]) ^^^ (((p4.toInt8.toInt32).toInt64) &&& (255 : Int64)))), (.long (own_fnv [(nar .byte (p1.toInt8.toInt32)), (nar .byte (p2.toInt8.toInt32)), (nar .byte (p3.toInt8.toInt32)), (nar .byte (p4.toInt8.toInt32))]))])) rfl (hb hby at_94) _ (XS.lmul X36.here hx rfl (hb hby at_97) rfl k)))))) ?_
    refine own_go (T' := T36) (f' := (mkF m 111 #[.val (.int p0), .val (.int p1), .val (.int p2), .val (.int p3), .val (.int p4), .val (.int (3 : Int32)), .val (.ref b28), .val (.ref b30), .val (.long (((p4.toInt8.toInt32).toInt64) &&& (255 : Int64))), .second, .val (.int (1 : Int32)), .val (.long (own_fnv [(nar .byte (p1.toInt8.toInt32)), (nar .byte (p2.toInt8.toInt32)), (nar .byte (p3.toInt8.toInt32))])), .second, .val (.int (1 : Int32))] [(.int (1 : Int32))])) (fun _ k => XS.lcmp X36.here hx rfl (hb hby at_98) rfl (XS.ifNo X36.here hx rfl (hb hby at_99) rfl ((if0 _ _).trans (teq ((own_lc_eq (a := (own_fnv [(nar .byte (p1.toInt8.toInt32)), (nar .byte (p2.toInt8.toInt32)), (nar .byte (p3.toInt8.toInt32)), (nar .byte (p4.toInt8.toInt32))])) (b := (((own_fnv [(nar .byte (p1.toInt8.toInt32)), (nar .byte (p2.toInt8.toInt32)), (nar .byte (p3.toInt8.toInt32))]) ^^^ (((p4.toInt8.toInt32).toInt64) &&& (255 : Int64))) * (1099511628211 : Int64)))).mpr (own_step [(nar .byte (p1.toInt8.toInt32)), (nar .byte (p2.toInt8.toInt32)), (nar .byte (p3.toInt8.toInt32))] p4))).2) (XS.iconst X36.here hx rfl (hb hby at_102) (XS.goto X36.here hx rfl (pc0 := 103) (pc' := 107) rfl (hb hby at_103) (by decide) (by decide) (XS.istore X36.here hx rfl (hb hby at_107) rfl (l' := #[.val (.int p0), .val (.int p1), .val (.int p2), .val (.int p3), .val (.int p4), .val (.int (3 : Int32)), .val (.ref b28), .val (.ref b30), .val (.long (((p4.toInt8.toInt32).toInt64) &&& (255 : Int64))), .second, .val (.int (1 : Int32)), .val (.long (own_fnv [(nar .byte (p1.toInt8.toInt32)), (nar .byte (p2.toInt8.toInt32)), (nar .byte (p3.toInt8.toInt32))])), .second, .val (.int (1 : Int32))]) rfl (XS.iload X36.here hx rfl (hb hby at_109) rfl k)))))) ?_
    refine own_go (T' := T36) (f' := (mkF m 124 #[.val (.int p0), .val (.int p1), .val (.int p2), .val (.int p3), .val (.int p4), .val (.int (3 : Int32)), .val (.ref b28), .val (.ref b30), .val (.long (((p4.toInt8.toInt32).toInt64) &&& (255 : Int64))), .second, .val (.int (1 : Int32)), .val (.long (own_fnv [(nar .byte (p1.toInt8.toInt32)), (nar .byte (p2.toInt8.toInt32)), (nar .byte (p3.toInt8.toInt32))])), .second, .val (.int (1 : Int32))] [(.int (1 : Int32))])) (fun _ k => XS.ifNo X36.here hx rfl (hb hby at_111) rfl ((if0 _ _).trans (feq (by decide : ¬ ((1 : Int32) = (0 : Int32)))).1) (XS.iload X36.here hx rfl (hb hby at_114) rfl (XS.ifNo X36.here hx rfl (hb hby at_116) rfl ((if0 _ _).trans (feq (by decide : ¬ ((1 : Int32) = (0 : Int32)))).1) (XS.iconst X36.here hx rfl (hb hby at_119) (XS.goto X36.here hx rfl (pc0 := 120) (pc' := 124) rfl (hb hby at_120) (by decide) (by decide) k))))) ?_
    refine own_ret X36 (v := some (.int (1 : Int32))) (fun h => by rw [Bd.returns] at h; cases h) Bd.notSynchronized (fun fs hr => retN X36 hx (t := .boolean) Bd.returns (by simp) (hb hby at_124) hr) ?_ (by decide) (by decide)
    show Q0 Z p0 p1 p2 p3 p4 h0 n0 _ T36.heap _
    exact ⟨rfl, N36⟩
set_option maxRecDepth 65536 in
set_option maxHeartbeats 40000000 in
theorem comes_1 {Post : Tables → Env → Array Value → State → Outcome → State → Prop} (hpost : ∀ tb e args s v u, (limb_1_1.after args s (.returned v) u = true ∧ limb_1_2.after args s (.returned v) u = true ∧ True) → FrameEnd s (.returned v) u (Jvm.fieldLocs frame_1_writes args s ++ Jvm.arrayLocs frame_1_arrays args s ++ Jvm.staticLocs frame_1_statics s) 16 128 → Post tb e args s (.returned v) u) :
    ArmFor flags0 classFile x code maxLocals ret World_1 tables_1 room_1 Calls_1 rest_1 Pre_1 Post := by
  intro l hfl _ _ p e ha hc hk s m args below hf hA hF happ hP
  obtain ⟨hcalls, hrest, hpre⟩ := hP
  obtain ⟨-, -, -, hnamed, -, -, -, hat⟩ := (Spec.applies_iff hf).mp happ
  obtain ⟨hg, hn⟩ := and_e (Cond.before_iff.mp (show (Jvm.Cond.and given_1 narrow_1).before args s = true from hpre))
  obtain ⟨hg_2, hg_3⟩ := and_e hg
  obtain ⟨hg_4, hg_5⟩ := and_e hg_3
  obtain ⟨hg_6, hg_7⟩ := and_e hg_5
  obtain ⟨hg_8, hg_9⟩ := and_e hg_7
  obtain ⟨hg_10, hg_11⟩ := and_e hg_9
  obtain ⟨w0, w1, w2, w3, w4, rfl⟩ : ∃ w0 w1 w2 w3 w4 : Value, args = #[w0, w1, w2, w3, w4] := by
    have hs : args.size = 5 := by simpa [Cond.value, given_1] using hg_2
    obtain ⟨L⟩ := args
    match L, hs with
    | [w0, w1, w2, w3, w4], _ => exact ⟨w0, w1, w2, w3, w4, rfl⟩
  have hw := fun d (hd : d ∈ tables_1) => atoms_spec (ws := Jvm.Cond.code x code maxLocals ret :: tables_1) hat d (List.mem_cons_of_mem _ hd)
  have hfit : Fit s := fun {y c} hc i hi => by
    obtain ⟨ha, rfl⟩ := Array.getElem?_eq_some_iff.mp hc
    have q := List.all_eq_true.mp ((Array.all_eq_true_iff_forall_mem.mp hF) _ (Array.getElem_mem ha)) i (List.mem_range.mpr hi)
    simpa [Array.getElem?_eq_getElem hi] using q
  obtain ⟨i0, ei0⟩ := is_v hg_4
  obtain rfl : w0 = (.int i0) := Option.some.inj ei0
  obtain ⟨i1, ei1⟩ := is_v hg_6
  obtain rfl : w1 = (.int i1) := Option.some.inj ei1
  obtain ⟨i2, ei2⟩ := is_v hg_8
  obtain rfl : w2 = (.int i2) := Option.some.inj ei2
  obtain ⟨i3, ei3⟩ := is_v hg_10
  obtain rfl : w3 = (.int i3) := Option.some.inj ei3
  obtain ⟨i4, ei4⟩ := is_v hg_11
  obtain rfl : w4 = (.int i4) := Option.some.inj ei4
  obtain ⟨n, o, h1, h2, h3, _, L, rfl, ⟨rfl, N⟩, hq⟩ := rm0 l s _ hw tables_1 i0 i1 i2 i3 i4 s.heap s.heap.size (Nat.le_refl _) p e ha hc hk s m _ below hf ((Spec.applies_iff_loose hf).mp happ).1 ⟨rfl, State.Warmed39.refl s, rfl⟩ trivial
  refine ⟨n, _, h1, h2, h3, hpost _ _ _ _ _ _ ⟨Cond.after_iff.mpr rfl, Cond.after_iff.mpr (eq_i res_at (Term.int_eval (1)) rfl), trivial⟩ ⟨hq.1, hq.2.1, (hq.2.2.sift fun y hy => Or.inr (N y hy)).mono (by decide) (by decide)⟩⟩
theorem main_1_1 : Claimed_1_1 := comes_1 fun _ _ _ _ _ _ h hF => ⟨h.1, hF⟩
theorem main_1_2 : Claimed_1_2 := comes_1 fun _ _ _ _ _ _ h hF => ⟨h.2.1, hF⟩
end Jvm.Pilot.@@N@@
namespace Jvm.Pilot.@@N@@
open Jvm Jvm.ClassFile Sem Op Lib Jvm.Free Jvm.Stand Jvm.Pilot.@@N@@.Jvm.D
/-! MADE BY PROGRAM (witnessworld.py) out of the Statement's table words and the real class files: 9 classes; the members and pool entries that the words name. The judged class is class 1, her method 2. -/
namespace start1
open Jvm.ClassFile
def u (s : String) : CpInfo := .utf8 (stringToUtf16 s)
/-- a pool by its gaps: so many unusable entries, then the entry; so many at the end -/
def gap : Nat → List CpInfo → List CpInfo
  | 0, r => r
  | n + 1, r => .unusable :: gap n r
def poolList (es : List (Nat × CpInfo)) (last : Nat) : List CpInfo := es.foldr (fun e r => gap e.1 (e.2 :: r)) (gap last [])
def pool (es : List (Nat × CpInfo)) (last : Nat) : Array CpInfo := ⟨poolList es last⟩
def fileOf (pool : Array CpInfo) (this : Nat) (attrs : Array Attribute := #[]) (ms : Array MethodInfo := #[]) (fl : Nat := 33) (sup : Nat := 0) (ifs : Array Nat := #[]) (fds : Array FieldInfo := #[]) : ClassFile where
  minorVersion := 0
  majorVersion := 65
  constantPool := pool
  accessFlags := fl
  thisClass := this
  superClass := sup
  interfaces := ifs
  fields := fds
  methods := ms
  attributes := attrs
def plain (name : String) (sup : Option ClassId) : Class where
  name := name
  kind := .ordinary
  loader := none
  accessFlags := 33
  super := sup
  interfaces := #[]
  cf := none
  fields := #[]
  methods := #[]
  instanceTypes := #[]
  staticTypes := #[]
  resolved := #[]
  callSites := []
  init := .initialized
  statics := none
  mirror := none

def pool0 : Array CpInfo := pool [(5, u "<init>"), (0, u "()V"), (1, .class_ 10), (1, u "java/lang/Object")] 113

def k0m0 : Method := { name := "<init>", desc := "()V", sig := { parameters := [], returnType := none }, accessFlags := 1, code := none }
/-- java/lang/Object -/
def k0 : Class := { plain "java/lang/Object" none with
  accessFlags := 33
  interfaces := #[]
  cf := some (fileOf pool0 8 #[] #[{ accessFlags := 1, nameIndex := 5, descriptorIndex := 6, attributes := #[] }] 33 0 #[] #[])
  fields := #[]
  methods := #[k0m0]
  instanceTypes := #[]
  staticTypes := #[]
  resolved := Array.replicate 124 none
  statics := none }

def pool1 : Array CpInfo := pool [(2, .class_ 4), (1, u "java/lang/Object"), (0, u "<init>"), (0, u "()V"), (0, .methodref 8 9), (0, .class_ 10), (0, .nameAndType 11 12), (0, u "com/example/libakin/libakin/hash/HashesFnv1aPinLaw"), (0, u "fill"), (0, u "([BIIII)V"), (0, .long 255), (1, .methodref 16 17), (0, .class_ 18), (0, .nameAndType 19 20), (0, u "com/example/libakin/libakin/hash/Hashes"), (0, u "fnv1a"), (0, u "([B)J"), (0, .long 14695981039346656037), (1, .long 1099511628211), (1, u "OFFSET"), (0, u "J"), (1, u "PRIME"), (3, u "law"), (0, u "(IIIII)Z")] 4

def k1m0 : Method := { name := "<init>", desc := "()V", sig := { parameters := [], returnType := none }, accessFlags := 2, code := none }
def k1c1 : Code := { maxStack := 3, maxLocals := 5, code := method_2_code, exceptionTable := #[], attributes := #[] }
def k1m1 : Method := { name := "fill", desc := "([BIIII)V", sig := { parameters := [(.array .byte), .int, .int, .int, .int], returnType := none }, accessFlags := 10, code := some k1c1 }
def k1c2 : Code := { maxStack := 6, maxLocals := 14, code := code, exceptionTable := #[], attributes := #[] }
def k1m2 : Method := { name := "law", desc := "(IIIII)Z", sig := { parameters := [.int, .int, .int, .int, .int], returnType := some .boolean }, accessFlags := 9, code := some k1c2 }
/-- com/example/libakin/libakin/hash/HashesFnv1aPinLaw -/
def k1 : Class := { plain "com/example/libakin/libakin/hash/HashesFnv1aPinLaw" (some 0) with
  accessFlags := 49
  interfaces := #[]
  cf := some (fileOf pool1 8 #[] #[{ accessFlags := 2, nameIndex := 5, descriptorIndex := 6, attributes := #[] }, { accessFlags := 10, nameIndex := 11, descriptorIndex := 12, attributes := #[] }, { accessFlags := 9, nameIndex := 32, descriptorIndex := 33, attributes := #[] }] 49 2 #[] #[{ accessFlags := 26, nameIndex := 25, descriptorIndex := 26, attributes := #[] }, { accessFlags := 26, nameIndex := 28, descriptorIndex := 26, attributes := #[] }])
  fields := #[{ name := "OFFSET", type := .long, accessFlags := 26, slot := 0, constantValue := 0 }, { name := "PRIME", type := .long, accessFlags := 26, slot := 1, constantValue := 0 }]
  methods := #[k1m0, k1m1, k1m2]
  instanceTypes := #[]
  staticTypes := #[.long, .long]
  resolved := Array.replicate 38 none
  statics := none }

def pool2 : Array CpInfo := pool [(2, .class_ 4), (1, u "java/lang/Object"), (0, u "<init>"), (0, u "()V"), (0, .class_ 8), (0, u "com/example/libakin/libakin/hash/Hashes"), (0, .long 14695981039346656037), (1, .long 1099511628211), (29, u "FNV_OFFSET_BASIS"), (0, u "J"), (1, u "FNV_PRIME"), (0, u "SPLITMIX_GAMMA"), (2, u "fnv1a"), (0, u "([B)J")] 26

def k2m0 : Method := { name := "<init>", desc := "()V", sig := { parameters := [], returnType := none }, accessFlags := 2, code := none }
def k2c1 : Code := { maxStack := 4, maxLocals := 7, code := prog_13_method_2_code, exceptionTable := #[], attributes := #[] }
def k2m1 : Method := { name := "fnv1a", desc := "([B)J", sig := { parameters := [(.array .byte)], returnType := some .long }, accessFlags := 9, code := some k2c1 }
/-- com/example/libakin/libakin/hash/Hashes -/
def k2 : Class := { plain "com/example/libakin/libakin/hash/Hashes" (some 0) with
  accessFlags := 49
  interfaces := #[]
  cf := some (fileOf pool2 7 #[] #[{ accessFlags := 2, nameIndex := 5, descriptorIndex := 6, attributes := #[] }, { accessFlags := 9, nameIndex := 48, descriptorIndex := 49, attributes := #[] }] 49 2 #[] #[{ accessFlags := 26, nameIndex := 41, descriptorIndex := 42, attributes := #[] }, { accessFlags := 26, nameIndex := 44, descriptorIndex := 42, attributes := #[] }, { accessFlags := 26, nameIndex := 45, descriptorIndex := 42, attributes := #[] }])
  fields := #[{ name := "FNV_OFFSET_BASIS", type := .long, accessFlags := 26, slot := 0, constantValue := 0 }, { name := "FNV_PRIME", type := .long, accessFlags := 26, slot := 1, constantValue := 0 }, { name := "SPLITMIX_GAMMA", type := .long, accessFlags := 26, slot := 2, constantValue := 0 }]
  methods := #[k2m0, k2m1]
  instanceTypes := #[]
  staticTypes := #[.long, .long, .long]
  resolved := Array.replicate 76 none
  statics := none }

def pool3 : Array CpInfo := pool [(1, u "java/lang/Cloneable"), (0, .class_ 1), (0, u "java/lang/Object"), (0, .class_ 3)] 3

/-- java/lang/Cloneable -/
def k3 : Class := { plain "java/lang/Cloneable" (some 0) with
  accessFlags := 1537
  interfaces := #[]
  cf := some (fileOf pool3 2 #[] #[] 1537 4 #[] #[])
  fields := #[]
  methods := #[]
  instanceTypes := #[]
  staticTypes := #[]
  resolved := Array.replicate 8 none
  statics := none }

def pool4 : Array CpInfo := pool [(1, u "java/io/Serializable"), (0, .class_ 1), (0, u "java/lang/Object"), (0, .class_ 3)] 3

/-- java/io/Serializable -/
def k4 : Class := { plain "java/io/Serializable" (some 0) with
  accessFlags := 1537
  interfaces := #[]
  cf := some (fileOf pool4 2 #[] #[] 1537 4 #[] #[])
  fields := #[]
  methods := #[]
  instanceTypes := #[]
  staticTypes := #[]
  resolved := Array.replicate 8 none
  statics := none }

/-- the primitive byte -/
def k5 : Class := { plain "byte" none with kind := .primitive 'B', accessFlags := 0x411 }
/-- [B -/
def k6 : Class := { plain "[B" (some 0) with kind := .array 5 .byte, interfaces := #[3, 4], accessFlags := 1041 }

/-- the primitive int -/
def k7 : Class := { plain "int" none with kind := .primitive 'I', accessFlags := 0x411 }
/-- [I -/
def k8 : Class := { plain "[I" (some 0) with kind := .array 7 .int, interfaces := #[3, 4], accessFlags := 1041 }

def heap : Heap := #[]
def classes : Array Class := #[k0, k1, k2, k3, k4, k5, k6, k7, k8]
def interned : List (Array UInt16 × Addr) := []
def slotsUsed : Nat := 0
def theMethod : MethodId := ⟨1, 2⟩
def args0 : Array Value := #[.int 2, .int 1, .int 2, .int 3, .int 4]
def aboutOver (below : List Frame) : State where
  vm := { classes := classes, interned := interned.toArray }
  heap := heap
  slotsUsed := slotsUsed
  threads := #[{ frames := .invoking theMethod args0 :: below }]
def below0 : List Frame := [.native { method := ⟨0, 0⟩, args := #[] }]
def about1 : State := aboutOver below0
def p0 : Program := .bare "" "" ""
def e0 : Env := launch0.env 0 0 0
theorem w_frames : about1.frames = Frame.invoking theMethod args0 :: below0 := rfl
set_option maxRecDepth 65536 in
theorem w_args : argsFit about1.vm theMethod args0 = true := by decide +kernel
set_option maxRecDepth 65536 in
theorem w_heap : heapFits about1 = true := by decide +kernel
set_option maxRecDepth 65536 in
theorem w_runnable : about1.curStatus? = some .runnable := by decide +kernel
set_option maxRecDepth 65536 in
theorem w_alone : about1.alone = true := by decide +kernel
set_option maxRecDepth 65536 in
theorem w_named : about1.methodNamed? x = some theMethod := by decide +kernel
set_option maxRecDepth 65536 in
theorem w_hears : about1.hears theMethod below0 = true := by decide +kernel
set_option maxRecDepth 65536 in
theorem w_ripe : about1.ripe theMethod args0 below0 = true := by decide +kernel
theorem w_running : about1.status = .running := rfl
set_option maxRecDepth 65536 in
theorem w_room : about1.hasRoom e0.platform room_1 = true :=
  launch0.hasRoom_least _ room_1 (by decide +kernel) (by decide +kernel) (by decide +kernel) (by decide +kernel) (by decide +kernel) (by decide +kernel)
theorem allAtoms_all (ts : List Jvm.Cond) (a : Array Jvm.Value) (st : Jvm.State) : (allAtoms ts).before a st = ts.all (fun c => c.before a st) := by
  induction ts with
  | nil => rfl
  | cons c t ih =>
    show (Jvm.Cond.and c (allAtoms t)).before a st = _
    rw [Jvm.Cond.before_and, ih, List.all_cons]
def words1 : List Jvm.Cond := Jvm.Cond.code x code maxLocals ret :: tables_1
/-- a 'code' word, met by the world's own term for the bytes: nothing is compared byte by byte -/
theorem code_word {y : MethodName} {bytes : ByteArray} {mx : Nat} {rt : Option FieldType} {a : Array Value} {s : State} {m : MethodId} {meth : Method} {c : Code} (h1 : s.methodNamed? y = some m) (h2 : s.vm.method? m = some meth) (h3 : meth.code = some c) (h4 : c.code = bytes)
    (h5 : (c.maxLocals == mx && c.exceptionTable.isEmpty && decide (c.maxStack ≤ mostOperands) && decide (meth.sig.returnType = rt) && !meth.locks && decide (parseMethodDescriptor y.desc = some meth.sig)) = true) : (Jvm.Cond.code y bytes mx rt).before a s = true := by
  simp only [Bool.and_eq_true, beq_iff_eq, Bool.not_eq_true', decide_eq_true_eq] at h5
  obtain ⟨⟨⟨⟨⟨g1, g2⟩, g3⟩, g4⟩, g5⟩, g6⟩ := h5
  simp [Cond.before, Cond.holds, Cond.value, h1, h2, h3, h4, g1, g2, g3, g4, g5, g6]
def isCode : Jvm.Cond → Bool
  | .code _ _ _ _ => true
  | _ => false
theorem all_split {L : List Jvm.Cond} {P : Jvm.Cond → Bool} (h1 : L.all (fun c => isCode c || P c) = true) (h2 : ∀ c ∈ L.filter isCode, P c = true) : L.all P = true := by
  refine List.all_eq_true.mpr fun c hc => ?_
  have h := List.all_eq_true.mp h1 c hc
  rcases Bool.eq_false_or_eq_true (isCode c) with hi | hi
  · exact h2 c (List.mem_filter.mpr ⟨hc, hi⟩)
  · simpa [hi] using h
set_option maxRecDepth 65536 in
theorem w_c0 : (Jvm.Cond.code x code maxLocals ret).before args0 about1 = true := code_word (m := ⟨1, 2⟩) (meth := k1m2) (c := k1c2) (by decide +kernel) rfl rfl rfl (by decide +kernel)
set_option maxRecDepth 65536 in
theorem w_c1 : (Jvm.Cond.code ({ cls := "com/example/libakin/libakin/hash/HashesFnv1aPinLaw", name := "fill", desc := "([BIIII)V" } : Jvm.MethodName) method_2_code (5 : Nat) (Option.none : Option Jvm.ClassFile.FieldType)).before args0 about1 = true := code_word (m := ⟨1, 1⟩) (meth := k1m1) (c := k1c1) (by decide +kernel) rfl rfl rfl (by decide +kernel)
set_option maxRecDepth 65536 in
theorem w_c2 : (Jvm.Cond.code ({ cls := "com/example/libakin/libakin/hash/Hashes", name := "fnv1a", desc := "([B)J" } : Jvm.MethodName) prog_13_method_2_code (7 : Nat) (Option.some Jvm.ClassFile.FieldType.long)).before args0 about1 = true := code_word (m := ⟨2, 1⟩) (meth := k2m1) (c := k2c1) (by decide +kernel) rfl rfl rfl (by decide +kernel)
def codes1 : List Jvm.Cond := [Jvm.Cond.code x code maxLocals ret, Jvm.Cond.code ({ cls := "com/example/libakin/libakin/hash/HashesFnv1aPinLaw", name := "fill", desc := "([BIIII)V" } : Jvm.MethodName) method_2_code (5 : Nat) (Option.none : Option Jvm.ClassFile.FieldType), Jvm.Cond.code ({ cls := "com/example/libakin/libakin/hash/Hashes", name := "fnv1a", desc := "([B)J" } : Jvm.MethodName) prog_13_method_2_code (7 : Nat) (Option.some Jvm.ClassFile.FieldType.long)]
set_option maxRecDepth 65536 in
theorem codes_eq : words1.filter isCode = codes1 := rfl
theorem w_codes : ∀ c ∈ words1.filter isCode, c.before args0 about1 = true := by
  rw [codes_eq]
  intro c hc
  simp only [codes1, List.mem_cons, List.not_mem_nil, or_false] at hc
  rcases hc with rfl | rfl | rfl
  · exact w_c0
  · exact w_c1
  · exact w_c2
set_option maxRecDepth 65536 in
theorem w_t1 : words1.all (fun c => isCode c || c.before args0 about1) = true := by decide +kernel
theorem w_tables : (allAtoms (Jvm.Cond.code x code maxLocals ret :: tables_1)).before args0 about1 = true := by
  rw [allAtoms_all]
  show words1.all (fun c => c.before args0 about1) = true
  refine all_split ?_ w_codes
  rw [w_t1]
set_option maxRecDepth 65536 in
theorem w_case : (Jvm.Cond.and given_1 narrow_1).before args0 about1 = true := by decide +kernel
theorem w_applies : (headSpec (Jvm.Cond.code x code maxLocals ret :: tables_1) room_1).applies x e0.platform about1 = true :=
  (Spec.applies_iff w_frames).mpr ⟨w_running, w_runnable, w_alone, w_named, w_hears, w_ripe, w_room, w_tables⟩
theorem atStart : AtStart classFile x code maxLocals ret World_1 tables_1 room_1 Calls_1 rest_1 Pre_1 launch0 p0 e0 about1 theMethod args0 below0 :=
  ⟨lists_1, trivial, launch0.admits_env _ _ _, launch0.least_env, fairChoices_fair.cas, fairChoices_fair.clock, w_frames, w_args, w_heap, w_applies, trivial, trivial, w_case⟩
end start1
theorem witness_1 : WitnessClaimed_1 := ⟨start1.p0, start1.e0, start1.about1, start1.theMethod, start1.args0, start1.below0, start1.atStart⟩
end Jvm.Pilot.@@N@@
