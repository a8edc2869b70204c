import JvmDerived
import JvmDerived.Pilot.@@N@@Statement
import JvmDerived.Pilot.@@N@@Code
set_option linter.unusedVariables false
set_option linter.unusedSimpArgs false
namespace Jvm.RoadKit
open Sem ClassFile Op Lib Jvm.Stand Jvm.Free Jvm.LawKit
section New
variable {p : Program} {l : Launch} {e : Env} {R : Room} {s : State} {m : MethodId} {args : Array Value} {below : List Frame} {meth : Method} {c : Code} {T : State} {locs : List Loc} {cells slots : Nat}
theorem retI (X : Stand p l e R s m args below meth c T locs cells slots) (hx : p.tables.exec = Jvm.exec) {pc : Nat} {Ls : Array Slot} {z : Int32} {rest : List Value} (hret : meth.sig.returnType = some .int) (hd : decode c.code pc = .ok (.ireturn, 1)) {fs : List Frame}
    (hl : ∀ (f : JFrame) (acts : List Action), f.method = m → f.locked = none → f.entered = [] → (doReturn e (T.setTop f) acts (some (.int z))).1 = T.setFrames fs) : Steps p.tables e below (T.setTop (mkF m pc Ls (.int z :: rest))) (T.setFrames fs) := by
  have hm' : T.vm.method? m = some meth := X.method'
  have hn : narrow .int (.int z) = .int z := rfl
  show Steps p.tables e below (T.setTop { method := m, pc := pc, locals := Ls, stack := _ :: rest, locked := none }) _
  jvm_step X.here [X.here.top, hx, hd, hm', hret, hn]
  first | (intro acts; rw [hl _ acts rfl rfl rfl]) | rw [hl _ _ rfl rfl rfl]
  exact Steps.refl _
end New
end Jvm.RoadKit
namespace Jvm.Pilot.@@N@@
open Jvm Jvm.ClassFile Sem Op Lib Jvm.Free Jvm.Stand Jvm.LawKit Jvm.RoadKit Bundle Jvm.Pilot.@@N@@.Jvm.D
section Own
variable {p : Program} {l : Launch} {e : Env} {R : Room} {s : State} {m : MethodId} {args : Array Value} {below : List Frame} {meth : Method} {c : Code} {T T' : State} {locs : List Loc} {cells slots cc nn : Nat} {f f' : JFrame} {Q : Option Value → Heap → List Loc → Prop} {Z : State} {h h' : Heap} {ws : List Addr}
/-- from this state the body comes to its end, and what it leaves is as Q says -/
def own_Ends (p : Program) (e : Env) (below : List Frame) (s : State) (Q : Option Value → Heap → List Loc → Prop) (cc nn : Nat) (T : State) (f : JFrame) : Prop :=
  ∃ s₂ o, Steps p.tables e below (T.setTop f) s₂ ∧ s₂.status = .running ∧ Ended s₂ below o ∧ ∃ v L, o = .returned v ∧ Q v s₂.heap L ∧ FrameEnd s o s₂ L cc nn
theorem own_go (k : ∀ t, Steps p.tables e below (T'.setTop f') t → Steps p.tables e below (T.setTop f) t) (h : own_Ends p e below s Q cc nn T' f') : own_Ends p e below s Q cc nn T f := by
  obtain ⟨s₂, o, h1, h2⟩ := h
  exact ⟨s₂, o, k _ h1, h2⟩
theorem own_ret (X : Stand p l e R s m args below meth c T locs cells slots) {v : Option Value} (hv : meth.sig.returnType = none → v = none) (hlk : meth.locks = false)
    (st : ∀ fs, (∀ (f : JFrame) (acts : List Action), f.method = m → f.locked = none → f.entered = [] → (doReturn e (T.setTop f) acts v).1 = T.setFrames fs) → Steps p.tables e below (T.setTop f) (T.setFrames fs)) (hQ : Q v T.heap locs) (h1 : cells ≤ cc) (h2 : slots ≤ nn) :
    own_Ends p e below s Q cc nn T f := by
  obtain ⟨fs, hr, hrun, hended, hW, hsame⟩ := X.leave (v := v) hv hlk
  exact ⟨_, _, st fs hr, hrun, hended, _, _, rfl, hQ, ⟨_, rfl⟩, hW, hsame.mono h1 h2⟩
theorem own_retL (X : Stand p l e R s m args below meth c T locs cells slots) (hx : p.tables.exec = Jvm.exec) {pc : Nat} {Ls : Array Slot} {z : Int64} {rest : List Value} (hret : meth.sig.returnType = some .long) (hd : decode c.code pc = .ok (.lreturn, 1)) {fs : List Frame}
    (hl : ∀ (f : JFrame) (acts : List Action), f.method = m → f.locked = none → f.entered = [] → (doReturn e (T.setTop f) acts (some (.long z))).1 = T.setFrames fs) : Steps p.tables e below (T.setTop (mkF m pc Ls (.long z :: rest))) (T.setFrames fs) :=
  retOut X hx hret rfl (Or.inr (Or.inl ⟨rfl, rfl, _, rfl⟩)) hd hl
theorem own_retA (X : Stand p l e R s m args below meth c T locs cells slots) (hx : p.tables.exec = Jvm.exec) {pc : Nat} {Ls : Array Slot} {w : Value} {t : FieldType} {rest : List Value} (hret : meth.sig.returnType = some t) (ht : t.isReference = true) (hw : w.isRef = true) (hd : decode c.code pc = .ok (.areturn, 1)) {fs : List Frame}
    (hl : ∀ (f : JFrame) (acts : List Action), f.method = m → f.locked = none → f.entered = [] → (doReturn e (T.setTop f) acts (some w)).1 = T.setFrames fs) : Steps p.tables e below (T.setTop (mkF m pc Ls (w :: rest))) (T.setFrames fs) :=
  retOut X hx hret (by cases t <;> first | rfl | (cases ht; done)) (Or.inr (Or.inr (Or.inr (Or.inr ⟨rfl, ht, hw⟩)))) hd hl
theorem own_lc_eq {a b : Int64} : lcmpW a b = 0 ↔ a = b := by
  simp only [lcmpW, gt_iff_lt]
  by_cases h1 : b < a
  · rw [if_pos h1]; exact ⟨fun q => absurd q (by decide), fun q => absurd h1 (by rw [q, Int64.lt_iff_toInt_lt]; omega)⟩
  · rw [if_neg h1]
    by_cases h2 : a = b
    · rw [if_pos h2]; exact ⟨fun _ => h2, fun _ => rfl⟩
    · rw [if_neg h2]; exact ⟨fun q => absurd q (by decide), fun q => absurd q h2⟩
section Arr
variable {target : State} {g : JFrame} {a : Addr} {kc : ClassId} {ty : FieldType} {z : Int32} {vs : List Value} {dv : Value}
theorem own_alen (X : Stand p l e R s m args below meth c T locs cells slots) (hx : p.tables.exec = Jvm.exec) (hZ : Z.Warmed39 s.vm) (eT : T.heap = h) (V : Arv Z h a kc ty z vs dv) (hg : g.method = m) {rest : List Value} (hs : g.stack = .ref a :: rest) (hd : decode c.code g.pc = .ok (.arraylength, 1))
    (hr : Steps p.tables e below (T.setTop { g with pc := g.pc + 1, stack := .int z :: rest }) target) : Steps p.tables e below (T.setTop g) target := by
  obtain ⟨cl, Ar, -, Sz, Ng, -, -⟩ := V
  exact X.arraylength hx (by rw [eT]; exact Ar.1) (State.isArrayOf_alike hZ.alike Ar.2.1) hg hs hd _ (by rw [len_of Sz Ng]; exact hr)
theorem own_ldI (X : Stand p l e R s m args below meth c T locs cells slots) (hx : p.tables.exec = Jvm.exec) (hZ : Z.Warmed39 s.vm) (eT : T.heap = h) (V : Arv Z h a kc .int z vs dv) {j : Int32} {x : Int32} (hin : ¬ j < 0 ∧ j < z) (hv : vs.getD j.toNatClampNeg dv = .int x) (hg : g.method = m) {rest : List Value} (hs : g.stack = .int j :: .ref a :: rest) (hd : decode c.code g.pc = .ok (.iaload, 1))
    (hr : Steps p.tables e below (T.setTop { g with pc := g.pc + 1, stack := .int x :: rest }) target) : Steps p.tables e below (T.setTop g) target := by
  obtain ⟨cl, Ar, -, Sz, Ng, Hs, Ft⟩ := V
  have hq := inb_of (j := j) Sz hin
  exact X.iaload hx (j := j) (v := .int x) (by rw [eT]; exact Ar.1) (State.isArrayOf_alike hZ.alike Ar.2.1) Ar.2.2 hq (Hs.at hq hv) hg hs hd _ hr
theorem own_ldZ (X : Stand p l e R s m args below meth c T locs cells slots) (hx : p.tables.exec = Jvm.exec) (hZ : Z.Warmed39 s.vm) (eT : T.heap = h) (V : Arv Z h a kc .boolean z vs dv) {j : Int32} {x : Int32} (hin : ¬ j < 0 ∧ j < z) (hv : vs.getD j.toNatClampNeg dv = .int x) (hg : g.method = m) {rest : List Value} (hs : g.stack = .int j :: .ref a :: rest) (hd : decode c.code g.pc = .ok (.baload, 1))
    (hr : Steps p.tables e below (T.setTop { g with pc := g.pc + 1, stack := .int x :: rest }) target) : Steps p.tables e below (T.setTop g) target := by
  obtain ⟨cl, Ar, -, Sz, Ng, Hs, Ft⟩ := V
  have hq := inb_of (j := j) Sz hin
  exact X.baloadBooleans hx (j := j) (v := .int x) (by rw [eT]; exact Ar.1) (State.isArrayOf_alike hZ.alike Ar.2.1) Ar.2.2 hq (Hs.at hq hv) hg hs hd _ hr
theorem own_ldJ (X : Stand p l e R s m args below meth c T locs cells slots) (hx : p.tables.exec = Jvm.exec) (hZ : Z.Warmed39 s.vm) (eT : T.heap = h) (V : Arv Z h a kc .long z vs dv) {j : Int32} {x : Int64} (hin : ¬ j < 0 ∧ j < z) (hv : vs.getD j.toNatClampNeg dv = .long x) (hg : g.method = m) {rest : List Value} (hs : g.stack = .int j :: .ref a :: rest) (hd : decode c.code g.pc = .ok (.laload, 1))
    (hr : Steps p.tables e below (T.setTop { g with pc := g.pc + 1, stack := .long x :: rest }) target) : Steps p.tables e below (T.setTop g) target := by
  obtain ⟨cl, Ar, -, Sz, Ng, Hs, Ft⟩ := V
  have hq := inb_of (j := j) Sz hin
  exact X.laload hx (j := j) (v := .long x) (by rw [eT]; exact Ar.1) (State.isArrayOf_alike hZ.alike Ar.2.1) Ar.2.2 hq (Hs.at hq hv) hg hs hd _ hr
theorem own_ldR (X : Stand p l e R s m args below meth c T locs cells slots) (hx : p.tables.exec = Jvm.exec) (hZ : Z.Warmed39 s.vm) (eT : T.heap = h) (V : Arv Z h a kc ty z vs dv) {j : Int32} {x : Value} (hin : ¬ j < 0 ∧ j < z) (hv : vs.getD j.toNatClampNeg dv = x) (hty : ty.isReference = true) (hg : g.method = m) {rest : List Value} (hs : g.stack = .int j :: .ref a :: rest) (hd : decode c.code g.pc = .ok (.aaload, 1))
    (hr : Steps p.tables e below (T.setTop { g with pc := g.pc + 1, stack := x :: rest }) target) : Steps p.tables e below (T.setTop g) target := by
  obtain ⟨cl, Ar, -, Sz, Ng, Hs, Ft⟩ := V
  have hq := inb_of (j := j) Sz hin
  exact X.aaload hx (j := j) (v := x) (by rw [eT]; exact Ar.1) (State.isArrayOf_alike hZ.alike Ar.2.1) hty Ar.2.2 hq (Hs.at hq hv) hg hs hd _ hr
theorem own_stI (X : Stand p l e R s m args below meth c T locs cells slots) (hx : p.tables.exec = Jvm.exec) (hZ : Z.Warmed39 s.vm) (eT : T.heap = h) (V : Arv Z h a kc .int z vs dv) {j : Int32} {x : Int32} (hin : ¬ j < 0 ∧ j < z) (i : Nat) (hj : j.toNatClampNeg = i) (hi : i < vs.length) (hg : g.method = m) {rest : List Value} (hs : g.stack = .int x :: .int j :: .ref a :: rest) (hd : decode c.code g.pc = .ok (.iastore, 1)) :
    ∃ T' h', Stand p l e R s m args below meth c T' (locs ++ [⟨a, j.toNatClampNeg⟩]) cells slots ∧ T'.heap = h' ∧ Wr h h' a j.toNatClampNeg (.int x) ∧ Arv Z h' a kc .int z (vs.set i (.int x)) dv ∧ ∀ target, Steps p.tables e below (T'.setTop { g with pc := g.pc + 1, stack := rest }) target → Steps p.tables e below (T.setTop g) target := by
  obtain ⟨cl, Ar, q, Sz, Ng, Hs, Ft⟩ := V
  obtain ⟨T', h', X', e', W', st⟩ := stI X hx hZ eT Ar (j := j) (inb_of Sz hin) hg hs hd
  exact ⟨T', h', X', e', W', Arv.set Ar q Sz Ng Hs Ft rfl W' i hj hi, st⟩
theorem own_stJ (X : Stand p l e R s m args below meth c T locs cells slots) (hx : p.tables.exec = Jvm.exec) (hZ : Z.Warmed39 s.vm) (eT : T.heap = h) (V : Arv Z h a kc .long z vs dv) {j : Int32} {x : Int64} (hin : ¬ j < 0 ∧ j < z) (i : Nat) (hj : j.toNatClampNeg = i) (hi : i < vs.length) (hg : g.method = m) {rest : List Value} (hs : g.stack = .long x :: .int j :: .ref a :: rest) (hd : decode c.code g.pc = .ok (.lastore, 1)) :
    ∃ T' h', Stand p l e R s m args below meth c T' (locs ++ [⟨a, j.toNatClampNeg⟩]) cells slots ∧ T'.heap = h' ∧ Wr h h' a j.toNatClampNeg (.long x) ∧ Arv Z h' a kc .long z (vs.set i (.long x)) dv ∧ ∀ target, Steps p.tables e below (T'.setTop { g with pc := g.pc + 1, stack := rest }) target → Steps p.tables e below (T.setTop g) target := by
  obtain ⟨cl, Ar, q, Sz, Ng, Hs, Ft⟩ := V
  obtain ⟨T', h', X', e', W', st⟩ := stJ X hx hZ eT Ar (j := j) (inb_of Sz hin) hg hs hd
  exact ⟨T', h', X', e', W', Arv.set Ar q Sz Ng Hs Ft rfl W' i hj hi, st⟩
theorem own_stZ (X : Stand p l e R s m args below meth c T locs cells slots) (hx : p.tables.exec = Jvm.exec) (hZ : Z.Warmed39 s.vm) (eT : T.heap = h) (V : Arv Z h a kc .boolean z vs dv) {j : Int32} {x : Int32} (hin : ¬ j < 0 ∧ j < z) (i : Nat) (hj : j.toNatClampNeg = i) (hi : i < vs.length) (hg : g.method = m) {rest : List Value} (hs : g.stack = .int x :: .int j :: .ref a :: rest) (hd : decode c.code g.pc = .ok (.bastore, 1)) :
    ∃ T' h', Stand p l e R s m args below meth c T' (locs ++ [⟨a, j.toNatClampNeg⟩]) cells slots ∧ T'.heap = h' ∧ Wr h h' a j.toNatClampNeg (.int (nar .boolean x)) ∧ Arv Z h' a kc .boolean z (vs.set i (.int (nar .boolean x))) dv ∧ ∀ target, Steps p.tables e below (T'.setTop { g with pc := g.pc + 1, stack := rest }) target → Steps p.tables e below (T.setTop g) target := by
  obtain ⟨cl, Ar, q, Sz, Ng, Hs, Ft⟩ := V
  obtain ⟨T', h', X', e', W', st⟩ := stZ X hx hZ eT Ar (j := j) (inb_of Sz hin) hg hs hd
  exact ⟨T', h', X', e', W', Arv.set Ar q Sz Ng Hs Ft (fits_nar_bool _) W' i hj hi, st⟩
theorem own_stR (X : Stand p l e R s m args below meth c T locs cells slots) (hx : p.tables.exec = Jvm.exec) (hZ : Z.Warmed39 s.vm) (eT : T.heap = h) (V : Arv Z h a kc ty z vs dv) {j : Int32} {x : Value} (hin : ¬ j < 0 ∧ j < z) (hty : ty.isReference = true) (hf : fits ty x = true) (F : ∀ cl, Arr Z h a cl ty → cl.cls = kc → Sto Z h a x) (i : Nat) (hj : j.toNatClampNeg = i) (hi : i < vs.length) (hg : g.method = m) {rest : List Value} (hs : g.stack = x :: .int j :: .ref a :: rest) (hd : decode c.code g.pc = .ok (.aastore, 1)) :
    ∃ T' h', Stand p l e R s m args below meth c T' (locs ++ [⟨a, j.toNatClampNeg⟩]) cells slots ∧ T'.heap = h' ∧ Wr h h' a j.toNatClampNeg x ∧ Arv Z h' a kc ty z (vs.set i x) dv ∧ ∀ target, Steps p.tables e below (T'.setTop { g with pc := g.pc + 1, stack := rest }) target → Steps p.tables e below (T.setTop g) target := by
  obtain ⟨cl, Ar, q, Sz, Ng, Hs, Ft⟩ := V
  obtain ⟨T', h', X', e', W', st⟩ := stR X hx hZ eT Ar (j := j) (inb_of Sz hin) hty (F cl Ar q) hg hs hd
  exact ⟨T', h', X', e', W', Arv.set Ar q Sz Ng Hs Ft hf W' i hj hi, st⟩
end Arr
section Dbl
open Jvm.Free.XS
variable {tb : Tables} [Ours tb] {target : State} {g : JFrame}
theorem own_dup2 (h : At T m c below) (hx : tb.exec = Jvm.exec) (hg : g.method = m) {x y : Value} {rest : List Value} (hd : decode c.code g.pc = .ok (.dup2, 1)) (hs : g.stack = x :: y :: rest) (h1 : x.category = 1) (h2 : y.category = 1) (hr : Steps tb e below (T.setTop { g with pc := g.pc + 1, stack := x :: y :: x :: y :: rest }) target) : Steps tb e below (T.setTop g) target := by
  subst hg
  jvm_step h [h.top, hx, hd, hs, h1, h2]
  exact hr
end Dbl
abbrev oI (x : Int32) : Slot := .val (.int x)
abbrev oR (x : Addr) : Slot := .val (.ref x)
abbrev oU : Slot := .unset
abbrev oS : Slot := .second
abbrev vI (x : Int32) : Value := .int x
abbrev vR (x : Addr) : Value := .ref x
theorem own_sta_keep {C n d : String} {v : Value} (F : Sta Z h C n d v) (K : Keep h h' ws) (q : ∀ st ∈ ws, ∀ c, h[st]? = some c → c.vm.isStatics = false) : Sta Z h' C n d v := by
  obtain ⟨cf, i, k, f, st, cell, h1, h2, h3, h4, h5, h6, h7⟩ := F
  exact ⟨cf, i, k, f, st, cell, h1, h2, h3, h4, K.2.1 st cell h5 (fun z => by rw [q st z cell h5] at h6; cases h6), h6, h7⟩
theorem own_ws0 : ∀ st ∈ ([] : List Addr), ∀ c, h[st]? = some c → c.vm.isStatics = false := fun _ q => nomatch q
theorem own_wsE {a : Addr} {C : String} (F : Exa Z h a C) (q : ∀ st ∈ ws, ∀ c, h[st]? = some c → c.vm.isStatics = false) : ∀ st ∈ a :: ws, ∀ c, h[st]? = some c → c.vm.isStatics = false := fun st hs c hc => by
  rcases List.mem_cons.mp hs with rfl | hs
  · obtain ⟨cell, k, h1, -, -, h4, -⟩ := F; cases h1.symm.trans hc; exact h4
  · exact q st hs c hc
theorem own_wsV {a : Addr} {k : ClassId} {ty : FieldType} {z : Int32} {vs : List Value} {dv : Value} (F : Arv Z h a k ty z vs dv) (q : ∀ st ∈ ws, ∀ c, h[st]? = some c → c.vm.isStatics = false) : ∀ st ∈ a :: ws, ∀ c, h[st]? = some c → c.vm.isStatics = false := fun st hs c hc => by
  rcases List.mem_cons.mp hs with rfl | hs
  · obtain ⟨cl, A, -⟩ := F; cases A.1.symm.trans hc; exact A.plain
  · exact q st hs c hc
theorem own_seli {s : State} {args : Array Value} {n : Nat} {y : MethodName} (h : (Cond.instantiable y.cls n).before args s = true) (hp : s.PrivateAt y) (hi : (Cond.instanceMethod y).before args s = true) (hy : y.cls ≠ "java/lang/invoke/MethodHandle" ∧ y.cls ≠ "java/lang/invoke/VarHandle") : (Cond.selects y.cls y y).before args s = true := by
  obtain ⟨t', kt, g1, g2, g3, g4, -⟩ := Cond.instantiable_spec h
  exact selects_self_of_private g1 g2 (Bool.or_eq_false_iff.mp g4).1 hp hi hy
theorem own_out {kc ks : Nat} {Q : Option Value → Heap → List Loc → Prop} {s₀ : State} {F : Option Value → JFrame} {P1 : Vm → Prop}
    (h : ∃ (v : Option Value) (vm₁ : Vm) (B : Pt), P1 vm₁ ∧ Stand p l e R s m args below meth c B.U B.locs B.cells B.slots ∧ (∃ L, Q v B.U.heap L ∧ B.locs = locs ++ L ∧ B.cells = cells + kc ∧ B.slots = slots + ks) ∧ Steps p.tables e below s₀ (B.U.setTop (F v))) :
    ∃ v T L, Stand p l e R s m args below meth c T (locs ++ L) (cells + kc) (slots + ks) ∧ Q v T.heap L ∧ Steps p.tables e below s₀ (T.setTop (F v)) := by
  obtain ⟨v, -, ⟨T, L0, k, n⟩, -, X, ⟨L, hQ, e1, e2, e3⟩, st⟩ := h
  dsimp only [Pt.U, Pt.locs, Pt.cells, Pt.slots] at X e1 e2 e3 st hQ
  subst e1 e2 e3
  exact ⟨v, T, L, X, hQ, st⟩
theorem own_outC {kc ks : Nat} {Q : Option Value → Heap → List Loc → Prop} {s₀ : State} {F : Option Value → JFrame} {P1 : Vm → Prop}
    (h : ∃ (v : Option Value) (vm₁ : Vm) (B : Pt), P1 vm₁ ∧ Stand p l e R s m args below meth c B.U B.locs B.cells B.slots ∧ (∃ L, Q v B.U.heap L ∧ B.locs = locs ++ L ∧ B.cells = cells + kc ∧ B.slots = slots + ks) ∧ ∀ target, Steps p.tables e below (B.U.setTop (F v)) target → Steps p.tables e below s₀ target) :
    ∃ v T L, Stand p l e R s m args below meth c T (locs ++ L) (cells + kc) (slots + ks) ∧ Q v T.heap L ∧ ∀ target, Steps p.tables e below (T.setTop (F v)) target → Steps p.tables e below s₀ target := by
  obtain ⟨v, -, ⟨T, L0, k, n⟩, -, X, ⟨L, hQ, e1, e2, e3⟩, st⟩ := h
  dsimp only [Pt.U, Pt.locs, Pt.cells, Pt.slots] at X e1 e2 e3 st hQ
  subst e1 e2 e3
  exact ⟨v, T, L, X, hQ, st⟩
theorem own_hide {n0 : Nat} (X : Stand p l e R s m args below meth c T locs cells slots) (N : Fr n0 locs) : ∃ L, Stand p l e R s m args below meth c T L cells slots ∧ Fr n0 L := ⟨_, X, N⟩
end Own
abbrev mn0 : MethodName := ⟨"java/util/AbstractCollection", "<init>", "()V"⟩
abbrev mn1 : MethodName := ⟨"java/util/AbstractList", "<init>", "()V"⟩
abbrev mn2 : MethodName := ⟨"java/util/ArrayList", "<init>", "()V"⟩
abbrev mn3 : MethodName := ⟨"java/lang/Math", "max", "(II)I"⟩
abbrev mn4 : MethodName := ⟨"java/util/ArrayList", "grow", "(I)[Ljava/lang/Object;"⟩
abbrev mn5 : MethodName := ⟨"java/util/ArrayList", "grow", "()[Ljava/lang/Object;"⟩
abbrev mn6 : MethodName := ⟨"java/util/ArrayList", "add", "(Ljava/lang/Object;[Ljava/lang/Object;I)V"⟩
abbrev mn7 : MethodName := ⟨"java/util/ArrayList", "add", "(Ljava/lang/Object;)Z"⟩
abbrev mn8 : MethodName := ⟨"java/util/List", "add", "(Ljava/lang/Object;)Z"⟩
abbrev mn9 : MethodName := ⟨"com/example/libakin/libakin/simhash/Layout", "choose", "(III[IILjava/util/List;)V"⟩
abbrev mn10 : MethodName := ⟨"java/util/ArrayList", "size", "()I"⟩
abbrev mn11 : MethodName := ⟨"java/util/List", "size", "()I"⟩
abbrev mn12 : MethodName := ⟨"jdk/internal/util/Preconditions", "checkIndex", "(IILjava/util/function/BiFunction;)I"⟩
abbrev mn13 : MethodName := ⟨"java/util/Objects", "checkIndex", "(II)I"⟩
abbrev mn14 : MethodName := ⟨"java/util/ArrayList", "elementData", "(I)Ljava/lang/Object;"⟩
abbrev mn15 : MethodName := ⟨"java/util/ArrayList", "get", "(I)Ljava/lang/Object;"⟩
abbrev mn16 : MethodName := ⟨"java/util/List", "get", "(I)Ljava/lang/Object;"⟩
abbrev mn17 : MethodName := ⟨"com/example/libakin/libakin/simhash/Layout", "unkeyedPrefix", "(I)J"⟩
abbrev mn18 : MethodName := ⟨"com/example/libakin/libakin/simhash/Layout", "key", "(IJ)J"⟩
abbrev mn19 : MethodName := ⟨"com/example/libakin/libakin/simhash/Layout", "<init>", "(II)V"⟩
abbrev mn20 : MethodName := ⟨"com/example/libakin/libakin/simhash/Layout", "metEarlier", "(IJ)Z"⟩
abbrev HW (a0 : Array Value) (Z : State) : Prop := ∀ d ∈ tables_1, d.before a0 Z = true
abbrev oF0 (Z : State) (h : Heap) (a : Addr) (v : Value) : Prop := Fld Z h a "java/util/AbstractList" "modCount" "I" v
abbrev oF1 (Z : State) (h : Heap) (a : Addr) (v : Value) : Prop := Fld Z h a "java/util/ArrayList" "elementData" "[Ljava/lang/Object;" v
abbrev oF2 (Z : State) (h : Heap) (a : Addr) (v : Value) : Prop := Fld Z h a "java/util/ArrayList" "size" "I" v
abbrev oF3 (Z : State) (h : Heap) (a : Addr) (v : Value) : Prop := Fld Z h a "com/example/libakin/libakin/simhash/Layout" "fromShifts" "[[I" v
abbrev oF4 (Z : State) (h : Heap) (a : Addr) (v : Value) : Prop := Fld Z h a "com/example/libakin/libakin/simhash/Layout" "widths" "[[I" v
abbrev oF5 (Z : State) (h : Heap) (a : Addr) (v : Value) : Prop := Fld Z h a "com/example/libakin/libakin/simhash/Layout" "prefixes" "[I" v
abbrev oF6 (Z : State) (h : Heap) (a : Addr) (v : Value) : Prop := Fld Z h a "com/example/libakin/libakin/simhash/Layout" "earlierPrefixes" "[[J" v
theorem oT {a b c : Nat} (h : a ≤ b) (h2 : b ≤ c) : a ≤ c := Nat.le_trans h h2
theorem oW {a b c : Nat} (h : a < b) (h2 : b ≤ c) : a < c := Nat.lt_of_lt_of_le h h2
theorem ow0 {Z : State} {a0 : Array Value} (hw : HW a0 Z) : (Jvm.Cond.classLink "com/example/libakin/libakin/simhash/LayoutMetEarlierPinLaw" (7 : Nat) "com/example/libakin/libakin/simhash/Layout").before a0 Z = true := hw _ (List.mem_of_getElem? (i := 0) rfl)
theorem ow1 {Z : State} {a0 : Array Value} (hw : HW a0 Z) : (Jvm.Cond.instantiable "com/example/libakin/libakin/simhash/Layout" (4 : Nat)).before a0 Z = true := hw _ (List.mem_of_getElem? (i := 1) rfl)
theorem ow2 {Z : State} {a0 : Array Value} (hw : HW a0 Z) : (Jvm.Cond.initialized "com/example/libakin/libakin/simhash/Layout").before a0 Z = true := hw _ (List.mem_of_getElem? (i := 2) rfl)
theorem ow92 {Z : State} {a0 : Array Value} (hw : HW a0 Z) : (Jvm.Cond.laysFinal "com/example/libakin/libakin/simhash/Layout" "com/example/libakin/libakin/simhash/Layout" "fromShifts" "[[I").before a0 Z = true := hw _ (List.mem_of_getElem? (i := 92) rfl)
theorem ow94 {Z : State} {a0 : Array Value} (hw : HW a0 Z) : (Jvm.Cond.laysFinal "com/example/libakin/libakin/simhash/Layout" "com/example/libakin/libakin/simhash/Layout" "widths" "[[I").before a0 Z = true := hw _ (List.mem_of_getElem? (i := 94) rfl)
theorem ow96 {Z : State} {a0 : Array Value} (hw : HW a0 Z) : (Jvm.Cond.laysFinal "com/example/libakin/libakin/simhash/Layout" "com/example/libakin/libakin/simhash/Layout" "prefixes" "[I").before a0 Z = true := hw _ (List.mem_of_getElem? (i := 96) rfl)
theorem ow122 {Z : State} {a0 : Array Value} (hw : HW a0 Z) : (Jvm.Cond.laysFinal "com/example/libakin/libakin/simhash/Layout" "com/example/libakin/libakin/simhash/Layout" "earlierPrefixes" "[[J").before a0 Z = true := hw _ (List.mem_of_getElem? (i := 122) rfl)
theorem ow3 {Z : State} {a0 : Array Value} (hw : HW a0 Z) : (Jvm.Cond.methodLink "com/example/libakin/libakin/simhash/LayoutMetEarlierPinLaw" (9 : Nat) mn19).before a0 Z = true := hw _ (List.mem_of_getElem? (i := 3) rfl)
theorem ow6 {Z : State} {a0 : Array Value} (hw : HW a0 Z) : (Jvm.Cond.methodLink "com/example/libakin/libakin/simhash/Layout" (1 : Nat) ({ cls := "java/lang/Object", name := "<init>", desc := "()V" } : Jvm.MethodName)).before a0 Z = true := hw _ (List.mem_of_getElem? (i := 6) rfl)
theorem ow8 {Z : State} {a0 : Array Value} (hw : HW a0 Z) : (Jvm.Cond.code ({ cls := "java/lang/Object", name := "<init>", desc := "()V" } : Jvm.MethodName) object_method_1_code (1 : Nat) (Option.none : Option Jvm.ClassFile.FieldType)).before a0 Z = true := hw _ (List.mem_of_getElem? (i := 8) rfl)
theorem ow7 {Z : State} {a0 : Array Value} (hw : HW a0 Z) : (Jvm.Cond.instanceMethod ({ cls := "java/lang/Object", name := "<init>", desc := "()V" } : Jvm.MethodName)).before a0 Z = true := hw _ (List.mem_of_getElem? (i := 7) rfl)
theorem ow9 {Z : State} {a0 : Array Value} (hw : HW a0 Z) : (Jvm.Cond.arrayClass Jvm.ClassFile.FieldType.int).before a0 Z = true := hw _ (List.mem_of_getElem? (i := 9) rfl)
theorem ow10 {Z : State} {a0 : Array Value} (hw : HW a0 Z) : (Jvm.Cond.classLink "com/example/libakin/libakin/simhash/Layout" (9 : Nat) "java/util/ArrayList").before a0 Z = true := hw _ (List.mem_of_getElem? (i := 10) rfl)
theorem ow11 {Z : State} {a0 : Array Value} (hw : HW a0 Z) : (Jvm.Cond.instantiable "java/util/ArrayList" (3 : Nat)).before a0 Z = true := hw _ (List.mem_of_getElem? (i := 11) rfl)
theorem ow12 {Z : State} {a0 : Array Value} (hw : HW a0 Z) : (Jvm.Cond.initialized "java/util/ArrayList").before a0 Z = true := hw _ (List.mem_of_getElem? (i := 12) rfl)
theorem ow30 {Z : State} {a0 : Array Value} (hw : HW a0 Z) : (Jvm.Cond.lays "java/util/ArrayList" "java/util/AbstractList" "modCount" "I").before a0 Z = true := hw _ (List.mem_of_getElem? (i := 30) rfl)
theorem ow33 {Z : State} {a0 : Array Value} (hw : HW a0 Z) : (Jvm.Cond.lays "java/util/ArrayList" "java/util/ArrayList" "elementData" "[Ljava/lang/Object;").before a0 Z = true := hw _ (List.mem_of_getElem? (i := 33) rfl)
theorem ow58 {Z : State} {a0 : Array Value} (hw : HW a0 Z) : (Jvm.Cond.lays "java/util/ArrayList" "java/util/ArrayList" "size" "I").before a0 Z = true := hw _ (List.mem_of_getElem? (i := 58) rfl)
theorem ow13 {Z : State} {a0 : Array Value} (hw : HW a0 Z) : (Jvm.Cond.methodLink "com/example/libakin/libakin/simhash/Layout" (11 : Nat) mn2).before a0 Z = true := hw _ (List.mem_of_getElem? (i := 13) rfl)
theorem ow16 {Z : State} {a0 : Array Value} (hw : HW a0 Z) : (Jvm.Cond.methodLink "java/util/ArrayList" (1 : Nat) mn1).before a0 Z = true := hw _ (List.mem_of_getElem? (i := 16) rfl)
theorem ow22 {Z : State} {a0 : Array Value} (hw : HW a0 Z) : (Jvm.Cond.methodLink "java/util/AbstractList" (1 : Nat) mn0).before a0 Z = true := hw _ (List.mem_of_getElem? (i := 22) rfl)
theorem ow28 {Z : State} {a0 : Array Value} (hw : HW a0 Z) : (Jvm.Cond.methodLink "java/util/AbstractCollection" (1 : Nat) ({ cls := "java/lang/Object", name := "<init>", desc := "()V" } : Jvm.MethodName)).before a0 Z = true := hw _ (List.mem_of_getElem? (i := 28) rfl)
theorem ow27 {Z : State} {a0 : Array Value} (hw : HW a0 Z) : (Jvm.Cond.code mn0 jdk_22_method_1_code (1 : Nat) (Option.none : Option Jvm.ClassFile.FieldType)).before a0 Z = true := hw _ (List.mem_of_getElem? (i := 27) rfl)
theorem ow26 {Z : State} {a0 : Array Value} (hw : HW a0 Z) : (Jvm.Cond.initialized "java/util/AbstractCollection").before a0 Z = true := hw _ (List.mem_of_getElem? (i := 26) rfl)
theorem ow23 {Z : State} {a0 : Array Value} (hw : HW a0 Z) : (Jvm.Cond.instanceMethod mn0).before a0 Z = true := hw _ (List.mem_of_getElem? (i := 23) rfl)
theorem ow29 {Z : State} {a0 : Array Value} (hw : HW a0 Z) : (Jvm.Cond.fieldLink "java/util/AbstractList" (7 : Nat) "java/util/AbstractList" "modCount" "I").before a0 Z = true := hw _ (List.mem_of_getElem? (i := 29) rfl)
theorem sn_33_30 {Z : State} {a0 : Array Value} (hw : HW a0 Z) : Jvm.RoadKit.slotOf Z "java/util/ArrayList" "elementData" "[Ljava/lang/Object;" ≠ Jvm.RoadKit.slotOf Z "java/util/AbstractList" "modCount" "I" := slot_ne (Or.inl (ow33 hw)) (Or.inl (ow30 hw)) (by decide) (t := (.array (.object "java/lang/Object"))) (t' := .int) (by decide) (by decide)
theorem sn_58_30 {Z : State} {a0 : Array Value} (hw : HW a0 Z) : Jvm.RoadKit.slotOf Z "java/util/ArrayList" "size" "I" ≠ Jvm.RoadKit.slotOf Z "java/util/AbstractList" "modCount" "I" := slot_ne (Or.inl (ow58 hw)) (Or.inl (ow30 hw)) (by decide) (t := .int) (t' := .int) (by decide) (by decide)
theorem ow21 {Z : State} {a0 : Array Value} (hw : HW a0 Z) : (Jvm.Cond.code mn1 jdk_39_method_1_code (1 : Nat) (Option.none : Option Jvm.ClassFile.FieldType)).before a0 Z = true := hw _ (List.mem_of_getElem? (i := 21) rfl)
theorem ow20 {Z : State} {a0 : Array Value} (hw : HW a0 Z) : (Jvm.Cond.initialized "java/util/AbstractList").before a0 Z = true := hw _ (List.mem_of_getElem? (i := 20) rfl)
theorem ow17 {Z : State} {a0 : Array Value} (hw : HW a0 Z) : (Jvm.Cond.instanceMethod mn1).before a0 Z = true := hw _ (List.mem_of_getElem? (i := 17) rfl)
theorem ow31 {Z : State} {a0 : Array Value} (hw : HW a0 Z) : (Jvm.Cond.fieldLink "java/util/ArrayList" (39 : Nat) "java/util/ArrayList" "DEFAULTCAPACITY_EMPTY_ELEMENTDATA" "[Ljava/lang/Object;").before a0 Z = true := hw _ (List.mem_of_getElem? (i := 31) rfl)
theorem ow32 {Z : State} {a0 : Array Value} (hw : HW a0 Z) : (Jvm.Cond.fieldLink "java/util/ArrayList" (9 : Nat) "java/util/ArrayList" "elementData" "[Ljava/lang/Object;").before a0 Z = true := hw _ (List.mem_of_getElem? (i := 32) rfl)
theorem sn_30_33 {Z : State} {a0 : Array Value} (hw : HW a0 Z) : Jvm.RoadKit.slotOf Z "java/util/AbstractList" "modCount" "I" ≠ Jvm.RoadKit.slotOf Z "java/util/ArrayList" "elementData" "[Ljava/lang/Object;" := slot_ne (Or.inl (ow30 hw)) (Or.inl (ow33 hw)) (by decide) (t := .int) (t' := (.array (.object "java/lang/Object"))) (by decide) (by decide)
theorem sn_58_33 {Z : State} {a0 : Array Value} (hw : HW a0 Z) : Jvm.RoadKit.slotOf Z "java/util/ArrayList" "size" "I" ≠ Jvm.RoadKit.slotOf Z "java/util/ArrayList" "elementData" "[Ljava/lang/Object;" := slot_ne (Or.inl (ow58 hw)) (Or.inl (ow33 hw)) (by decide) (t := .int) (t' := (.array (.object "java/lang/Object"))) (by decide) (by decide)
theorem ow15 {Z : State} {a0 : Array Value} (hw : HW a0 Z) : (Jvm.Cond.code mn2 jdk_38_method_2_code (1 : Nat) (Option.none : Option Jvm.ClassFile.FieldType)).before a0 Z = true := hw _ (List.mem_of_getElem? (i := 15) rfl)
theorem ow14 {Z : State} {a0 : Array Value} (hw : HW a0 Z) : (Jvm.Cond.instanceMethod mn2).before a0 Z = true := hw _ (List.mem_of_getElem? (i := 14) rfl)
theorem ow34 {Z : State} {a0 : Array Value} (hw : HW a0 Z) : (Jvm.Cond.methodLink "com/example/libakin/libakin/simhash/Layout" (12 : Nat) mn9).before a0 Z = true := hw _ (List.mem_of_getElem? (i := 34) rfl)
theorem ow37 {Z : State} {a0 : Array Value} (hw : HW a0 Z) : (Jvm.Cond.methodLink "com/example/libakin/libakin/simhash/Layout" (88 : Nat) ({ cls := "[I", name := "clone", desc := "()Ljava/lang/Object;" } : Jvm.MethodName)).before a0 Z = true := hw _ (List.mem_of_getElem? (i := 37) rfl)
theorem ow38 {Z : State} {a0 : Array Value} (hw : HW a0 Z) : (Jvm.Cond.sameMethod "[I" "java/lang/Object" "clone" "()Ljava/lang/Object;").before a0 Z = true := hw _ (List.mem_of_getElem? (i := 38) rfl)
theorem ow42 {Z : State} {a0 : Array Value} (hw : HW a0 Z) : (Jvm.Cond.native ({ cls := "java/lang/Object", name := "clone", desc := "()Ljava/lang/Object;" } : Jvm.MethodName)).before a0 Z = true := hw _ (List.mem_of_getElem? (i := 42) rfl)
theorem ow40 {Z : State} {a0 : Array Value} (hw : HW a0 Z) : (Jvm.Cond.instanceMethod ({ cls := "java/lang/Object", name := "clone", desc := "()Ljava/lang/Object;" } : Jvm.MethodName)).before a0 Z = true := hw _ (List.mem_of_getElem? (i := 40) rfl)
theorem ow41 {Z : State} {a0 : Array Value} (hw : HW a0 Z) : (Jvm.Cond.selects "[I" ({ cls := "[I", name := "clone", desc := "()Ljava/lang/Object;" } : Jvm.MethodName) ({ cls := "java/lang/Object", name := "clone", desc := "()Ljava/lang/Object;" } : Jvm.MethodName)).before a0 Z = true := hw _ (List.mem_of_getElem? (i := 41) rfl)
theorem ow43 {Z : State} {a0 : Array Value} (hw : HW a0 Z) : (Jvm.Cond.castable "[I" "java/lang/Cloneable").before a0 Z = true := hw _ (List.mem_of_getElem? (i := 43) rfl)
theorem ow44 {Z : State} {a0 : Array Value} (hw : HW a0 Z) : (Jvm.Cond.classLink "com/example/libakin/libakin/simhash/Layout" (40 : Nat) "[I").before a0 Z = true := hw _ (List.mem_of_getElem? (i := 44) rfl)
theorem ow46 {Z : State} {a0 : Array Value} (hw : HW a0 Z) : (Jvm.Cond.methodLink "com/example/libakin/libakin/simhash/Layout" (92 : Nat) mn8).before a0 Z = true := hw _ (List.mem_of_getElem? (i := 46) rfl)
theorem ow55 {Z : State} {a0 : Array Value} (hw : HW a0 Z) : (Jvm.Cond.fieldLink "java/util/ArrayList" (63 : Nat) "java/util/ArrayList" "modCount" "I").before a0 Z = true := hw _ (List.mem_of_getElem? (i := 55) rfl)
theorem ow56 {Z : State} {a0 : Array Value} (hw : HW a0 Z) : (Jvm.Cond.sameField "java/util/ArrayList" "java/util/AbstractList" "modCount" "I").before a0 Z = true := hw _ (List.mem_of_getElem? (i := 56) rfl)
theorem ow57 {Z : State} {a0 : Array Value} (hw : HW a0 Z) : (Jvm.Cond.fieldLink "java/util/ArrayList" (48 : Nat) "java/util/ArrayList" "size" "I").before a0 Z = true := hw _ (List.mem_of_getElem? (i := 57) rfl)
abbrev fE7_9 (k : Nat) (v : Value) : Nat × Nat × String × String × String × Value := (k, 9, "java/util/ArrayList", "elementData", "[Ljava/lang/Object;", v)
abbrev fE7_48 (k : Nat) (v : Value) : Nat × Nat × String × String × String × Value := (k, 48, "java/util/ArrayList", "size", "I", v)
theorem ow59 {Z : State} {a0 : Array Value} (hw : HW a0 Z) : (Jvm.Cond.methodLink "java/util/ArrayList" (131 : Nat) mn6).before a0 Z = true := hw _ (List.mem_of_getElem? (i := 59) rfl)
theorem ow64 {Z : State} {a0 : Array Value} (hw : HW a0 Z) : (Jvm.Cond.methodLink "java/util/ArrayList" (129 : Nat) mn5).before a0 Z = true := hw _ (List.mem_of_getElem? (i := 64) rfl)
abbrev fE9_48 (k : Nat) (v : Value) : Nat × Nat × String × String × String × Value := (k, 48, "java/util/ArrayList", "size", "I", v)
theorem ow69 {Z : State} {a0 : Array Value} (hw : HW a0 Z) : (Jvm.Cond.methodLink "java/util/ArrayList" (69 : Nat) mn4).before a0 Z = true := hw _ (List.mem_of_getElem? (i := 69) rfl)
abbrev fE10_9 (k : Nat) (v : Value) : Nat × Nat × String × String × String × Value := (k, 9, "java/util/ArrayList", "elementData", "[Ljava/lang/Object;", v)
theorem ow74 {Z : State} {a0 : Array Value} (hw : HW a0 Z) : (Jvm.Cond.methodLink "java/util/ArrayList" (79 : Nat) mn3).before a0 Z = true := hw _ (List.mem_of_getElem? (i := 74) rfl)
theorem ow77 {Z : State} {a0 : Array Value} (hw : HW a0 Z) : (Jvm.Cond.code mn3 jdk_29_method_65_code (2 : Nat) (Option.some Jvm.ClassFile.FieldType.int)).before a0 Z = true := hw _ (List.mem_of_getElem? (i := 77) rfl)
theorem ow76 {Z : State} {a0 : Array Value} (hw : HW a0 Z) : (Jvm.Cond.initialized "java/lang/Math").before a0 Z = true := hw _ (List.mem_of_getElem? (i := 76) rfl)
theorem ow75 {Z : State} {a0 : Array Value} (hw : HW a0 Z) : (Jvm.Cond.static mn3).before a0 Z = true := hw _ (List.mem_of_getElem? (i := 75) rfl)
theorem ow78 {Z : State} {a0 : Array Value} (hw : HW a0 Z) : (Jvm.Cond.classLink "java/util/ArrayList" (7 : Nat) "java/lang/Object").before a0 Z = true := hw _ (List.mem_of_getElem? (i := 78) rfl)
theorem ow79 {Z : State} {a0 : Array Value} (hw : HW a0 Z) : (Jvm.Cond.arrayOver (Jvm.ClassFile.FieldType.object "java/lang/Object")).before a0 Z = true := hw _ (List.mem_of_getElem? (i := 79) rfl)
def own_ls0 : List Value := [.null, .null, .null, .null, .null, .null, .null, .null, .null, .null]
theorem ow73 {Z : State} {a0 : Array Value} (hw : HW a0 Z) : (Jvm.Cond.code mn4 jdk_38_method_6_code (4 : Nat) (Option.some (Jvm.ClassFile.FieldType.array (Jvm.ClassFile.FieldType.object "java/lang/Object")))).before a0 Z = true := hw _ (List.mem_of_getElem? (i := 73) rfl)
theorem ow70 {Z : State} {a0 : Array Value} (hw : HW a0 Z) : (Jvm.Cond.instanceMethod mn4).before a0 Z = true := hw _ (List.mem_of_getElem? (i := 70) rfl)
theorem ow72 {Z : State} {a0 : Array Value} (hw : HW a0 Z) : (Jvm.Cond.selects "java/util/ArrayList" mn4 mn4).before a0 Z = true := hw _ (List.mem_of_getElem? (i := 72) rfl)
theorem ow71 {Z : State} {a0 : Array Value} (hw : HW a0 Z) : (Jvm.Cond.privateMethod mn4).before a0 Z = true := hw _ (List.mem_of_getElem? (i := 71) rfl)
theorem ow68 {Z : State} {a0 : Array Value} (hw : HW a0 Z) : (Jvm.Cond.code mn5 jdk_38_method_7_code (1 : Nat) (Option.some (Jvm.ClassFile.FieldType.array (Jvm.ClassFile.FieldType.object "java/lang/Object")))).before a0 Z = true := hw _ (List.mem_of_getElem? (i := 68) rfl)
theorem ow65 {Z : State} {a0 : Array Value} (hw : HW a0 Z) : (Jvm.Cond.instanceMethod mn5).before a0 Z = true := hw _ (List.mem_of_getElem? (i := 65) rfl)
theorem ow67 {Z : State} {a0 : Array Value} (hw : HW a0 Z) : (Jvm.Cond.selects "java/util/ArrayList" mn5 mn5).before a0 Z = true := hw _ (List.mem_of_getElem? (i := 67) rfl)
theorem ow66 {Z : State} {a0 : Array Value} (hw : HW a0 Z) : (Jvm.Cond.privateMethod mn5).before a0 Z = true := hw _ (List.mem_of_getElem? (i := 66) rfl)
theorem ow80 {Z : State} {a0 : Array Value} (hw : HW a0 Z) : (Jvm.Cond.castable "[I" "java/lang/Object").before a0 Z = true := hw _ (List.mem_of_getElem? (i := 80) rfl)
theorem sn_30_58 {Z : State} {a0 : Array Value} (hw : HW a0 Z) : Jvm.RoadKit.slotOf Z "java/util/AbstractList" "modCount" "I" ≠ Jvm.RoadKit.slotOf Z "java/util/ArrayList" "size" "I" := slot_ne (Or.inl (ow30 hw)) (Or.inl (ow58 hw)) (by decide) (t := .int) (t' := .int) (by decide) (by decide)
theorem sn_33_58 {Z : State} {a0 : Array Value} (hw : HW a0 Z) : Jvm.RoadKit.slotOf Z "java/util/ArrayList" "elementData" "[Ljava/lang/Object;" ≠ Jvm.RoadKit.slotOf Z "java/util/ArrayList" "size" "I" := slot_ne (Or.inl (ow33 hw)) (Or.inl (ow58 hw)) (by decide) (t := (.array (.object "java/lang/Object"))) (t' := .int) (by decide) (by decide)
theorem ow63 {Z : State} {a0 : Array Value} (hw : HW a0 Z) : (Jvm.Cond.code mn6 jdk_38_method_24_code (4 : Nat) (Option.none : Option Jvm.ClassFile.FieldType)).before a0 Z = true := hw _ (List.mem_of_getElem? (i := 63) rfl)
theorem ow60 {Z : State} {a0 : Array Value} (hw : HW a0 Z) : (Jvm.Cond.instanceMethod mn6).before a0 Z = true := hw _ (List.mem_of_getElem? (i := 60) rfl)
theorem ow62 {Z : State} {a0 : Array Value} (hw : HW a0 Z) : (Jvm.Cond.selects "java/util/ArrayList" mn6 mn6).before a0 Z = true := hw _ (List.mem_of_getElem? (i := 62) rfl)
theorem ow61 {Z : State} {a0 : Array Value} (hw : HW a0 Z) : (Jvm.Cond.privateMethod mn6).before a0 Z = true := hw _ (List.mem_of_getElem? (i := 61) rfl)
theorem ow54 {Z : State} {a0 : Array Value} (hw : HW a0 Z) : (Jvm.Cond.code mn7 jdk_38_method_25_code (2 : Nat) (Option.some Jvm.ClassFile.FieldType.boolean)).before a0 Z = true := hw _ (List.mem_of_getElem? (i := 54) rfl)
theorem ow49 {Z : State} {a0 : Array Value} (hw : HW a0 Z) : (Jvm.Cond.selects "java/util/ArrayList" mn8 mn7).before a0 Z = true := hw _ (List.mem_of_getElem? (i := 49) rfl)
theorem ow47 {Z : State} {a0 : Array Value} (hw : HW a0 Z) : (Jvm.Cond.declares mn8).before a0 Z = true := hw _ (List.mem_of_getElem? (i := 47) rfl)
theorem ow48 {Z : State} {a0 : Array Value} (hw : HW a0 Z) : (Jvm.Cond.interfaceMethod "java/util/List" "java/util/List" "add" "(Ljava/lang/Object;)Z").before a0 Z = true := hw _ (List.mem_of_getElem? (i := 48) rfl)
theorem ow50 {Z : State} {a0 : Array Value} (hw : HW a0 Z) : (Jvm.Cond.instanceMethod mn7).before a0 Z = true := hw _ (List.mem_of_getElem? (i := 50) rfl)
theorem ow51 {Z : State} {a0 : Array Value} (hw : HW a0 Z) : (Jvm.Cond.publicMethod mn7).before a0 Z = true := hw _ (List.mem_of_getElem? (i := 51) rfl)
theorem ow52 {Z : State} {a0 : Array Value} (hw : HW a0 Z) : (Jvm.Cond.unhidden "java/util/ArrayList" "add" "(Ljava/lang/Object;)Z").before a0 Z = true := hw _ (List.mem_of_getElem? (i := 52) rfl)
theorem ow53 {Z : State} {a0 : Array Value} (hw : HW a0 Z) : (Jvm.Cond.castable "java/util/ArrayList" "java/util/List").before a0 Z = true := hw _ (List.mem_of_getElem? (i := 53) rfl)
theorem ow36 {Z : State} {a0 : Array Value} (hw : HW a0 Z) : (Jvm.Cond.code mn9 prog_28_method_10_code (7 : Nat) (Option.none : Option Jvm.ClassFile.FieldType)).before a0 Z = true := hw _ (List.mem_of_getElem? (i := 36) rfl)
theorem ow35 {Z : State} {a0 : Array Value} (hw : HW a0 Z) : (Jvm.Cond.static mn9).before a0 Z = true := hw _ (List.mem_of_getElem? (i := 35) rfl)
theorem ow81 {Z : State} {a0 : Array Value} (hw : HW a0 Z) : (Jvm.Cond.methodLink "com/example/libakin/libakin/simhash/Layout" (18 : Nat) mn11).before a0 Z = true := hw _ (List.mem_of_getElem? (i := 81) rfl)
abbrev fE12_48 (k : Nat) (v : Value) : Nat × Nat × String × String × String × Value := (k, 48, "java/util/ArrayList", "size", "I", v)
theorem ow88 {Z : State} {a0 : Array Value} (hw : HW a0 Z) : (Jvm.Cond.code mn10 jdk_38_method_8_code (1 : Nat) (Option.some Jvm.ClassFile.FieldType.int)).before a0 Z = true := hw _ (List.mem_of_getElem? (i := 88) rfl)
theorem ow84 {Z : State} {a0 : Array Value} (hw : HW a0 Z) : (Jvm.Cond.selects "java/util/ArrayList" mn11 mn10).before a0 Z = true := hw _ (List.mem_of_getElem? (i := 84) rfl)
theorem ow82 {Z : State} {a0 : Array Value} (hw : HW a0 Z) : (Jvm.Cond.declares mn11).before a0 Z = true := hw _ (List.mem_of_getElem? (i := 82) rfl)
theorem ow83 {Z : State} {a0 : Array Value} (hw : HW a0 Z) : (Jvm.Cond.interfaceMethod "java/util/List" "java/util/List" "size" "()I").before a0 Z = true := hw _ (List.mem_of_getElem? (i := 83) rfl)
theorem ow85 {Z : State} {a0 : Array Value} (hw : HW a0 Z) : (Jvm.Cond.instanceMethod mn10).before a0 Z = true := hw _ (List.mem_of_getElem? (i := 85) rfl)
theorem ow86 {Z : State} {a0 : Array Value} (hw : HW a0 Z) : (Jvm.Cond.publicMethod mn10).before a0 Z = true := hw _ (List.mem_of_getElem? (i := 86) rfl)
theorem ow87 {Z : State} {a0 : Array Value} (hw : HW a0 Z) : (Jvm.Cond.unhidden "java/util/ArrayList" "size" "()I").before a0 Z = true := hw _ (List.mem_of_getElem? (i := 87) rfl)
theorem ow89 {Z : State} {a0 : Array Value} (hw : HW a0 Z) : (Jvm.Cond.classLink "com/example/libakin/libakin/simhash/Layout" (24 : Nat) "[[I").before a0 Z = true := hw _ (List.mem_of_getElem? (i := 89) rfl)
theorem ow90 {Z : State} {a0 : Array Value} (hw : HW a0 Z) : (Jvm.Cond.arrayOver (Jvm.ClassFile.FieldType.array Jvm.ClassFile.FieldType.int)).before a0 Z = true := hw _ (List.mem_of_getElem? (i := 90) rfl)
theorem ow91 {Z : State} {a0 : Array Value} (hw : HW a0 Z) : (Jvm.Cond.fieldLink "com/example/libakin/libakin/simhash/Layout" (26 : Nat) "com/example/libakin/libakin/simhash/Layout" "fromShifts" "[[I").before a0 Z = true := hw _ (List.mem_of_getElem? (i := 91) rfl)
theorem ow93 {Z : State} {a0 : Array Value} (hw : HW a0 Z) : (Jvm.Cond.fieldLink "com/example/libakin/libakin/simhash/Layout" (29 : Nat) "com/example/libakin/libakin/simhash/Layout" "widths" "[[I").before a0 Z = true := hw _ (List.mem_of_getElem? (i := 93) rfl)
theorem sn_94_92 {Z : State} {a0 : Array Value} (hw : HW a0 Z) : Jvm.RoadKit.slotOf Z "com/example/libakin/libakin/simhash/Layout" "widths" "[[I" ≠ Jvm.RoadKit.slotOf Z "com/example/libakin/libakin/simhash/Layout" "fromShifts" "[[I" := slot_ne (Or.inr (ow94 hw)) (Or.inr (ow92 hw)) (by decide) (t := (.array (.array .int))) (t' := (.array (.array .int))) (by decide) (by decide)
theorem ow95 {Z : State} {a0 : Array Value} (hw : HW a0 Z) : (Jvm.Cond.fieldLink "com/example/libakin/libakin/simhash/Layout" (32 : Nat) "com/example/libakin/libakin/simhash/Layout" "prefixes" "[I").before a0 Z = true := hw _ (List.mem_of_getElem? (i := 95) rfl)
theorem sn_96_92 {Z : State} {a0 : Array Value} (hw : HW a0 Z) : Jvm.RoadKit.slotOf Z "com/example/libakin/libakin/simhash/Layout" "prefixes" "[I" ≠ Jvm.RoadKit.slotOf Z "com/example/libakin/libakin/simhash/Layout" "fromShifts" "[[I" := slot_ne (Or.inr (ow96 hw)) (Or.inr (ow92 hw)) (by decide) (t := (.array .int)) (t' := (.array (.array .int))) (by decide) (by decide)
theorem sn_96_94 {Z : State} {a0 : Array Value} (hw : HW a0 Z) : Jvm.RoadKit.slotOf Z "com/example/libakin/libakin/simhash/Layout" "prefixes" "[I" ≠ Jvm.RoadKit.slotOf Z "com/example/libakin/libakin/simhash/Layout" "widths" "[[I" := slot_ne (Or.inr (ow96 hw)) (Or.inr (ow94 hw)) (by decide) (t := (.array .int)) (t' := (.array (.array .int))) (by decide) (by decide)
theorem ow97 {Z : State} {a0 : Array Value} (hw : HW a0 Z) : (Jvm.Cond.arrayClass Jvm.ClassFile.FieldType.boolean).before a0 Z = true := hw _ (List.mem_of_getElem? (i := 97) rfl)
theorem ow98 {Z : State} {a0 : Array Value} (hw : HW a0 Z) : (Jvm.Cond.methodLink "com/example/libakin/libakin/simhash/Layout" (36 : Nat) mn16).before a0 Z = true := hw _ (List.mem_of_getElem? (i := 98) rfl)
abbrev fE13_48 (k : Nat) (v : Value) : Nat × Nat × String × String × String × Value := (k, 48, "java/util/ArrayList", "size", "I", v)
theorem ow106 {Z : State} {a0 : Array Value} (hw : HW a0 Z) : (Jvm.Cond.methodLink "java/util/ArrayList" (118 : Nat) mn13).before a0 Z = true := hw _ (List.mem_of_getElem? (i := 106) rfl)
theorem ow110 {Z : State} {a0 : Array Value} (hw : HW a0 Z) : (Jvm.Cond.methodLink "java/util/Objects" (105 : Nat) mn12).before a0 Z = true := hw _ (List.mem_of_getElem? (i := 110) rfl)
theorem ow113 {Z : State} {a0 : Array Value} (hw : HW a0 Z) : (Jvm.Cond.code mn12 jdk_41_method_11_code (3 : Nat) (Option.some Jvm.ClassFile.FieldType.int)).before a0 Z = true := hw _ (List.mem_of_getElem? (i := 113) rfl)
theorem ow112 {Z : State} {a0 : Array Value} (hw : HW a0 Z) : (Jvm.Cond.initialized "jdk/internal/util/Preconditions").before a0 Z = true := hw _ (List.mem_of_getElem? (i := 112) rfl)
theorem ow111 {Z : State} {a0 : Array Value} (hw : HW a0 Z) : (Jvm.Cond.static mn12).before a0 Z = true := hw _ (List.mem_of_getElem? (i := 111) rfl)
theorem ow109 {Z : State} {a0 : Array Value} (hw : HW a0 Z) : (Jvm.Cond.code mn13 jdk_31_method_17_code (2 : Nat) (Option.some Jvm.ClassFile.FieldType.int)).before a0 Z = true := hw _ (List.mem_of_getElem? (i := 109) rfl)
theorem ow108 {Z : State} {a0 : Array Value} (hw : HW a0 Z) : (Jvm.Cond.initialized "java/util/Objects").before a0 Z = true := hw _ (List.mem_of_getElem? (i := 108) rfl)
theorem ow107 {Z : State} {a0 : Array Value} (hw : HW a0 Z) : (Jvm.Cond.static mn13).before a0 Z = true := hw _ (List.mem_of_getElem? (i := 107) rfl)
theorem ow114 {Z : State} {a0 : Array Value} (hw : HW a0 Z) : (Jvm.Cond.methodLink "java/util/ArrayList" (123 : Nat) mn14).before a0 Z = true := hw _ (List.mem_of_getElem? (i := 114) rfl)
abbrev fE16_9 (k : Nat) (v : Value) : Nat × Nat × String × String × String × Value := (k, 9, "java/util/ArrayList", "elementData", "[Ljava/lang/Object;", v)
theorem ow118 {Z : State} {a0 : Array Value} (hw : HW a0 Z) : (Jvm.Cond.code mn14 jdk_38_method_18_code (2 : Nat) (Option.some (Jvm.ClassFile.FieldType.object "java/lang/Object"))).before a0 Z = true := hw _ (List.mem_of_getElem? (i := 118) rfl)
theorem ow117 {Z : State} {a0 : Array Value} (hw : HW a0 Z) : (Jvm.Cond.selects "java/util/ArrayList" mn14 mn14).before a0 Z = true := hw _ (List.mem_of_getElem? (i := 117) rfl)
theorem ow115 {Z : State} {a0 : Array Value} (hw : HW a0 Z) : (Jvm.Cond.declares mn14).before a0 Z = true := hw _ (List.mem_of_getElem? (i := 115) rfl)
theorem ow116 {Z : State} {a0 : Array Value} (hw : HW a0 Z) : (Jvm.Cond.instanceMethod mn14).before a0 Z = true := hw _ (List.mem_of_getElem? (i := 116) rfl)
theorem ow105 {Z : State} {a0 : Array Value} (hw : HW a0 Z) : (Jvm.Cond.code mn15 jdk_38_method_20_code (2 : Nat) (Option.some (Jvm.ClassFile.FieldType.object "java/lang/Object"))).before a0 Z = true := hw _ (List.mem_of_getElem? (i := 105) rfl)
theorem ow101 {Z : State} {a0 : Array Value} (hw : HW a0 Z) : (Jvm.Cond.selects "java/util/ArrayList" mn16 mn15).before a0 Z = true := hw _ (List.mem_of_getElem? (i := 101) rfl)
theorem ow99 {Z : State} {a0 : Array Value} (hw : HW a0 Z) : (Jvm.Cond.declares mn16).before a0 Z = true := hw _ (List.mem_of_getElem? (i := 99) rfl)
theorem ow100 {Z : State} {a0 : Array Value} (hw : HW a0 Z) : (Jvm.Cond.interfaceMethod "java/util/List" "java/util/List" "get" "(I)Ljava/lang/Object;").before a0 Z = true := hw _ (List.mem_of_getElem? (i := 100) rfl)
theorem ow102 {Z : State} {a0 : Array Value} (hw : HW a0 Z) : (Jvm.Cond.instanceMethod mn15).before a0 Z = true := hw _ (List.mem_of_getElem? (i := 102) rfl)
theorem ow103 {Z : State} {a0 : Array Value} (hw : HW a0 Z) : (Jvm.Cond.publicMethod mn15).before a0 Z = true := hw _ (List.mem_of_getElem? (i := 103) rfl)
theorem ow104 {Z : State} {a0 : Array Value} (hw : HW a0 Z) : (Jvm.Cond.unhidden "java/util/ArrayList" "get" "(I)Ljava/lang/Object;").before a0 Z = true := hw _ (List.mem_of_getElem? (i := 104) rfl)
abbrev fE1_26 (k : Nat) (v : Value) : Nat × Nat × String × String × String × Value := (k, 26, "com/example/libakin/libakin/simhash/Layout", "fromShifts", "[[I", v)
abbrev fE1_29 (k : Nat) (v : Value) : Nat × Nat × String × String × String × Value := (k, 29, "com/example/libakin/libakin/simhash/Layout", "widths", "[[I", v)
abbrev fE1_32 (k : Nat) (v : Value) : Nat × Nat × String × String × String × Value := (k, 32, "com/example/libakin/libakin/simhash/Layout", "prefixes", "[I", v)
theorem sn_92_94 {Z : State} {a0 : Array Value} (hw : HW a0 Z) : Jvm.RoadKit.slotOf Z "com/example/libakin/libakin/simhash/Layout" "fromShifts" "[[I" ≠ Jvm.RoadKit.slotOf Z "com/example/libakin/libakin/simhash/Layout" "widths" "[[I" := slot_ne (Or.inr (ow92 hw)) (Or.inr (ow94 hw)) (by decide) (t := (.array (.array .int))) (t' := (.array (.array .int))) (by decide) (by decide)
theorem sn_92_96 {Z : State} {a0 : Array Value} (hw : HW a0 Z) : Jvm.RoadKit.slotOf Z "com/example/libakin/libakin/simhash/Layout" "fromShifts" "[[I" ≠ Jvm.RoadKit.slotOf Z "com/example/libakin/libakin/simhash/Layout" "prefixes" "[I" := slot_ne (Or.inr (ow92 hw)) (Or.inr (ow96 hw)) (by decide) (t := (.array (.array .int))) (t' := (.array .int)) (by decide) (by decide)
theorem sn_94_96 {Z : State} {a0 : Array Value} (hw : HW a0 Z) : Jvm.RoadKit.slotOf Z "com/example/libakin/libakin/simhash/Layout" "widths" "[[I" ≠ Jvm.RoadKit.slotOf Z "com/example/libakin/libakin/simhash/Layout" "prefixes" "[I" := slot_ne (Or.inr (ow94 hw)) (Or.inr (ow96 hw)) (by decide) (t := (.array (.array .int))) (t' := (.array .int)) (by decide) (by decide)
theorem ow119 {Z : State} {a0 : Array Value} (hw : HW a0 Z) : (Jvm.Cond.classLink "com/example/libakin/libakin/simhash/Layout" (41 : Nat) "[J").before a0 Z = true := hw _ (List.mem_of_getElem? (i := 119) rfl)
theorem ow120 {Z : State} {a0 : Array Value} (hw : HW a0 Z) : (Jvm.Cond.arrayOver (Jvm.ClassFile.FieldType.array Jvm.ClassFile.FieldType.long)).before a0 Z = true := hw _ (List.mem_of_getElem? (i := 120) rfl)
theorem ow121 {Z : State} {a0 : Array Value} (hw : HW a0 Z) : (Jvm.Cond.fieldLink "com/example/libakin/libakin/simhash/Layout" (43 : Nat) "com/example/libakin/libakin/simhash/Layout" "earlierPrefixes" "[[J").before a0 Z = true := hw _ (List.mem_of_getElem? (i := 121) rfl)
theorem sn_122_92 {Z : State} {a0 : Array Value} (hw : HW a0 Z) : Jvm.RoadKit.slotOf Z "com/example/libakin/libakin/simhash/Layout" "earlierPrefixes" "[[J" ≠ Jvm.RoadKit.slotOf Z "com/example/libakin/libakin/simhash/Layout" "fromShifts" "[[I" := slot_ne (Or.inr (ow122 hw)) (Or.inr (ow92 hw)) (by decide) (t := (.array (.array .long))) (t' := (.array (.array .int))) (by decide) (by decide)
theorem sn_122_94 {Z : State} {a0 : Array Value} (hw : HW a0 Z) : Jvm.RoadKit.slotOf Z "com/example/libakin/libakin/simhash/Layout" "earlierPrefixes" "[[J" ≠ Jvm.RoadKit.slotOf Z "com/example/libakin/libakin/simhash/Layout" "widths" "[[I" := slot_ne (Or.inr (ow122 hw)) (Or.inr (ow94 hw)) (by decide) (t := (.array (.array .long))) (t' := (.array (.array .int))) (by decide) (by decide)
theorem sn_122_96 {Z : State} {a0 : Array Value} (hw : HW a0 Z) : Jvm.RoadKit.slotOf Z "com/example/libakin/libakin/simhash/Layout" "earlierPrefixes" "[[J" ≠ Jvm.RoadKit.slotOf Z "com/example/libakin/libakin/simhash/Layout" "prefixes" "[I" := slot_ne (Or.inr (ow122 hw)) (Or.inr (ow96 hw)) (by decide) (t := (.array (.array .long))) (t' := (.array .int)) (by decide) (by decide)
abbrev fE1_43 (k : Nat) (v : Value) : Nat × Nat × String × String × String × Value := (k, 43, "com/example/libakin/libakin/simhash/Layout", "earlierPrefixes", "[[J", v)
theorem ow123 {Z : State} {a0 : Array Value} (hw : HW a0 Z) : (Jvm.Cond.arrayClass Jvm.ClassFile.FieldType.long).before a0 Z = true := hw _ (List.mem_of_getElem? (i := 123) rfl)
theorem ow125 {Z : State} {a0 : Array Value} (hw : HW a0 Z) : (Jvm.Cond.methodLink "com/example/libakin/libakin/simhash/Layout" (47 : Nat) mn17).before a0 Z = true := hw _ (List.mem_of_getElem? (i := 125) rfl)
theorem ow129 {Z : State} {a0 : Array Value} (hw : HW a0 Z) : (Jvm.Cond.constantLong "com/example/libakin/libakin/simhash/Layout" (86 : Nat) (-1 : Int64)).before a0 Z = true := hw _ (List.mem_of_getElem? (i := 129) rfl)
abbrev fE17_32 (k : Nat) (v : Value) : Nat × Nat × String × String × String × Value := (k, 32, "com/example/libakin/libakin/simhash/Layout", "prefixes", "[I", v)
abbrev fE17_29 (k : Nat) (v : Value) : Nat × Nat × String × String × String × Value := (k, 29, "com/example/libakin/libakin/simhash/Layout", "widths", "[[I", v)
abbrev fE17_26 (k : Nat) (v : Value) : Nat × Nat × String × String × String × Value := (k, 26, "com/example/libakin/libakin/simhash/Layout", "fromShifts", "[[I", v)
theorem ow128 {Z : State} {a0 : Array Value} (hw : HW a0 Z) : (Jvm.Cond.code mn17 prog_28_method_8_code (6 : Nat) (Option.some Jvm.ClassFile.FieldType.long)).before a0 Z = true := hw _ (List.mem_of_getElem? (i := 128) rfl)
theorem sn_92_122 {Z : State} {a0 : Array Value} (hw : HW a0 Z) : Jvm.RoadKit.slotOf Z "com/example/libakin/libakin/simhash/Layout" "fromShifts" "[[I" ≠ Jvm.RoadKit.slotOf Z "com/example/libakin/libakin/simhash/Layout" "earlierPrefixes" "[[J" := slot_ne (Or.inr (ow92 hw)) (Or.inr (ow122 hw)) (by decide) (t := (.array (.array .int))) (t' := (.array (.array .long))) (by decide) (by decide)
theorem sn_94_122 {Z : State} {a0 : Array Value} (hw : HW a0 Z) : Jvm.RoadKit.slotOf Z "com/example/libakin/libakin/simhash/Layout" "widths" "[[I" ≠ Jvm.RoadKit.slotOf Z "com/example/libakin/libakin/simhash/Layout" "earlierPrefixes" "[[J" := slot_ne (Or.inr (ow94 hw)) (Or.inr (ow122 hw)) (by decide) (t := (.array (.array .int))) (t' := (.array (.array .long))) (by decide) (by decide)
theorem sn_96_122 {Z : State} {a0 : Array Value} (hw : HW a0 Z) : Jvm.RoadKit.slotOf Z "com/example/libakin/libakin/simhash/Layout" "prefixes" "[I" ≠ Jvm.RoadKit.slotOf Z "com/example/libakin/libakin/simhash/Layout" "earlierPrefixes" "[[J" := slot_ne (Or.inr (ow96 hw)) (Or.inr (ow122 hw)) (by decide) (t := (.array .int)) (t' := (.array (.array .long))) (by decide) (by decide)
theorem ow126 {Z : State} {a0 : Array Value} (hw : HW a0 Z) : (Jvm.Cond.instanceMethod mn17).before a0 Z = true := hw _ (List.mem_of_getElem? (i := 126) rfl)
theorem ow127 {Z : State} {a0 : Array Value} (hw : HW a0 Z) : (Jvm.Cond.privateMethod mn17).before a0 Z = true := hw _ (List.mem_of_getElem? (i := 127) rfl)
theorem ow130 {Z : State} {a0 : Array Value} (hw : HW a0 Z) : (Jvm.Cond.methodLink "com/example/libakin/libakin/simhash/Layout" (51 : Nat) mn18).before a0 Z = true := hw _ (List.mem_of_getElem? (i := 130) rfl)
abbrev fE18_29 (k : Nat) (v : Value) : Nat × Nat × String × String × String × Value := (k, 29, "com/example/libakin/libakin/simhash/Layout", "widths", "[[I", v)
abbrev fE18_26 (k : Nat) (v : Value) : Nat × Nat × String × String × String × Value := (k, 26, "com/example/libakin/libakin/simhash/Layout", "fromShifts", "[[I", v)
theorem ow134 {Z : State} {a0 : Array Value} (hw : HW a0 Z) : (Jvm.Cond.code mn18 prog_28_method_6_code (9 : Nat) (Option.some Jvm.ClassFile.FieldType.long)).before a0 Z = true := hw _ (List.mem_of_getElem? (i := 134) rfl)
theorem ow133 {Z : State} {a0 : Array Value} (hw : HW a0 Z) : (Jvm.Cond.selects "com/example/libakin/libakin/simhash/Layout" mn18 mn18).before a0 Z = true := hw _ (List.mem_of_getElem? (i := 133) rfl)
theorem ow131 {Z : State} {a0 : Array Value} (hw : HW a0 Z) : (Jvm.Cond.declares mn18).before a0 Z = true := hw _ (List.mem_of_getElem? (i := 131) rfl)
theorem ow132 {Z : State} {a0 : Array Value} (hw : HW a0 Z) : (Jvm.Cond.instanceMethod mn18).before a0 Z = true := hw _ (List.mem_of_getElem? (i := 132) rfl)
theorem ow5 {Z : State} {a0 : Array Value} (hw : HW a0 Z) : (Jvm.Cond.code mn19 prog_28_method_1_code (13 : Nat) (Option.none : Option Jvm.ClassFile.FieldType)).before a0 Z = true := hw _ (List.mem_of_getElem? (i := 5) rfl)
theorem ow4 {Z : State} {a0 : Array Value} (hw : HW a0 Z) : (Jvm.Cond.instanceMethod mn19).before a0 Z = true := hw _ (List.mem_of_getElem? (i := 4) rfl)
theorem ow135 {Z : State} {a0 : Array Value} (hw : HW a0 Z) : (Jvm.Cond.constant "com/example/libakin/libakin/simhash/LayoutMetEarlierPinLaw" (12 : Nat) (2147483647 : Int32)).before a0 Z = true := hw _ (List.mem_of_getElem? (i := 135) rfl)
theorem ow137 {Z : State} {a0 : Array Value} (hw : HW a0 Z) : (Jvm.Cond.methodLink "com/example/libakin/libakin/simhash/LayoutMetEarlierPinLaw" (15 : Nat) mn20).before a0 Z = true := hw _ (List.mem_of_getElem? (i := 137) rfl)
abbrev fE19_43 (k : Nat) (v : Value) : Nat × Nat × String × String × String × Value := (k, 43, "com/example/libakin/libakin/simhash/Layout", "earlierPrefixes", "[[J", v)
theorem ow141 {Z : State} {a0 : Array Value} (hw : HW a0 Z) : (Jvm.Cond.code mn20 prog_28_method_7_code (9 : Nat) (Option.some Jvm.ClassFile.FieldType.boolean)).before a0 Z = true := hw _ (List.mem_of_getElem? (i := 141) rfl)
theorem ow140 {Z : State} {a0 : Array Value} (hw : HW a0 Z) : (Jvm.Cond.selects "com/example/libakin/libakin/simhash/Layout" mn20 mn20).before a0 Z = true := hw _ (List.mem_of_getElem? (i := 140) rfl)
theorem ow138 {Z : State} {a0 : Array Value} (hw : HW a0 Z) : (Jvm.Cond.declares mn20).before a0 Z = true := hw _ (List.mem_of_getElem? (i := 138) rfl)
theorem ow139 {Z : State} {a0 : Array Value} (hw : HW a0 Z) : (Jvm.Cond.instanceMethod mn20).before a0 Z = true := hw _ (List.mem_of_getElem? (i := 139) rfl)
theorem ow136 {Z : State} {a0 : Array Value} (hw : HW a0 Z) : (Jvm.Cond.constantLong "com/example/libakin/libakin/simhash/LayoutMetEarlierPinLaw" (13 : Nat) (4294967295 : Int64)).before a0 Z = true := hw _ (List.mem_of_getElem? (i := 136) rfl)
def own_ls1 : List Value := [(.int (0 : Int32)), (.int (0 : Int32)), (.int (0 : Int32)), (.int (0 : Int32))]
def own_ls2 : List Value := [(.int (0 : Int32)), (.int (22 : Int32)), (.int (0 : Int32)), (.int (0 : Int32))]
def own_ls3 : List Value := [(.int (0 : Int32)), (.int (22 : Int32)), (.int (43 : Int32)), (.int (0 : Int32))]
def own_ls4 : List Value := [(.int (0 : Int32)), (.int (22 : Int32)), (.int (43 : Int32)), (.int (64 : Int32))]
theorem ow144 {Z : State} {a0 : Array Value} (hw : HW a0 Z) : (Jvm.Cond.constantLong "com/example/libakin/libakin/simhash/LayoutMetEarlierPinLaw" (19 : Nat) (-4398044413953 : Int64)).before a0 Z = true := hw _ (List.mem_of_getElem? (i := 144) rfl)
theorem ow142 {Z : State} {a0 : Array Value} (hw : HW a0 Z) : (Jvm.Cond.constantLong "com/example/libakin/libakin/simhash/LayoutMetEarlierPinLaw" (21 : Nat) (-8796088827905 : Int64)).before a0 Z = true := hw _ (List.mem_of_getElem? (i := 142) rfl)
theorem ow143 {Z : State} {a0 : Array Value} (hw : HW a0 Z) : (Jvm.Cond.constantLong "com/example/libakin/libakin/simhash/LayoutMetEarlierPinLaw" (23 : Nat) (8796093022207 : Int64)).before a0 Z = true := hw _ (List.mem_of_getElem? (i := 143) rfl)
section Run
variable {p : Program} {l : Launch} {e : Env} {R : Room} {s : State} {m : MethodId} {args : Array Value} {below : List Frame} {meth : Method} {c : Code} {T : State} {locs : List Loc} {cells slots cc nn : Nat}
abbrev own_R := Option (Nat × Array Slot × List Value)
variable {pc k n a b : Nat} {ls : Array Slot} {st : List Value} {r : Nat × Array Slot × List Value} {q : own_R}
def own_g (a b : Nat) (q : own_R) : own_R := bif Nat.beq a b then q else none
theorem own_g_ok (h : own_g a b q = some r) : a = b ∧ q = some r := by
  unfold own_g at h
  cases w : Nat.beq a b with
  | true => rw [w] at h; exact ⟨Nat.eq_of_beq_eq_true w, h⟩
  | false => rw [w] at h; exact nomatch h
def own_ldi (pc : Nat) (ls : Array Slot) (st : List Value) (k n : Nat) : own_R := match ls[k]? with
  | some (.val (.int v)) => some (pc + n, ls, (.int v) :: st)
  | _ => none
theorem own_ldi_ok (h : own_ldi pc ls st k n = some r) : ∃ v, ls[k]? = some (.val (.int v)) ∧ r = (pc + n, ls, (.int v) :: st) := by
  unfold own_ldi at h
  split at h
  · exact ⟨_, by assumption, (Option.some.inj h).symm⟩
  · exact nomatch h
def own_ldl (pc : Nat) (ls : Array Slot) (st : List Value) (k n : Nat) : own_R := match ls[k]? with
  | some (.val (.long v)) => some (pc + n, ls, (.long v) :: st)
  | _ => none
theorem own_ldl_ok (h : own_ldl pc ls st k n = some r) : ∃ v, ls[k]? = some (.val (.long v)) ∧ r = (pc + n, ls, (.long v) :: st) := by
  unfold own_ldl at h
  split at h
  · exact ⟨_, by assumption, (Option.some.inj h).symm⟩
  · exact nomatch h
def own_lda (pc : Nat) (ls : Array Slot) (st : List Value) (k n : Nat) : own_R := match ls[k]? with
  | some (.val (.ref v)) => some (pc + n, ls, (.ref v) :: st)
  | some (.val .null) => some (pc + n, ls, .null :: st)
  | _ => none
theorem own_lda_ok (h : own_lda pc ls st k n = some r) : ∃ v, ls[k]? = some (.val v) ∧ v.isRef = true ∧ r = (pc + n, ls, v :: st) := by
  unfold own_lda at h
  split at h
  · exact ⟨_, by assumption, rfl, (Option.some.inj h).symm⟩
  · exact ⟨_, by assumption, rfl, (Option.some.inj h).symm⟩
  · exact nomatch h
def own_sti (pc : Nat) (ls : Array Slot) (st : List Value) (k n : Nat) : own_R := match st with
  | (.int v) :: u => (match storeLocals ls k (.int v) with | some l' => some (pc + n, l', u) | none => none)
  | _ => none
theorem own_sti_ok (h : own_sti pc ls st k n = some r) : ∃ v u l', st = (.int v) :: u ∧ storeLocals ls k (.int v) = some l' ∧ r = (pc + n, l', u) := by
  unfold own_sti at h
  split at h
  · split at h
    · exact ⟨_, _, _, rfl, by assumption, (Option.some.inj h).symm⟩
    · exact nomatch h
  · exact nomatch h
def own_stl (pc : Nat) (ls : Array Slot) (st : List Value) (k n : Nat) : own_R := match st with
  | (.long v) :: u => (match storeLocals ls k (.long v) with | some l' => some (pc + n, l', u) | none => none)
  | _ => none
theorem own_stl_ok (h : own_stl pc ls st k n = some r) : ∃ v u l', st = (.long v) :: u ∧ storeLocals ls k (.long v) = some l' ∧ r = (pc + n, l', u) := by
  unfold own_stl at h
  split at h
  · split at h
    · exact ⟨_, _, _, rfl, by assumption, (Option.some.inj h).symm⟩
    · exact nomatch h
  · exact nomatch h
def own_sta (pc : Nat) (ls : Array Slot) (st : List Value) (k n : Nat) : own_R := match st with
  | (.ref v) :: u => (match storeLocals ls k (.ref v) with | some l' => some (pc + n, l', u) | none => none)
  | .null :: u => (match storeLocals ls k .null with | some l' => some (pc + n, l', u) | none => none)
  | _ => none
theorem own_sta_ok (h : own_sta pc ls st k n = some r) : ∃ v u l', st = v :: u ∧ v.isRef = true ∧ storeLocals ls k v = some l' ∧ r = (pc + n, l', u) := by
  unfold own_sta at h
  split at h
  · split at h
    · exact ⟨_, _, _, rfl, rfl, by assumption, (Option.some.inj h).symm⟩
    · exact nomatch h
  · split at h
    · exact ⟨_, _, _, rfl, rfl, by assumption, (Option.some.inj h).symm⟩
    · exact nomatch h
  · exact nomatch h
def own_bii (f : Int32 → Int32 → Int32) (pc : Nat) (ls : Array Slot) (st : List Value) : own_R := match st with
  | .int y :: .int x :: u => some (pc + 1, ls, .int (f x y) :: u)
  | _ => none
theorem own_bii_ok {f : Int32 → Int32 → Int32} (h : own_bii f pc ls st = some r) : ∃ x y u, st = .int y :: .int x :: u ∧ r = (pc + 1, ls, .int (f x y) :: u) := by
  unfold own_bii at h
  split at h
  · exact ⟨_, _, _, rfl, (Option.some.inj h).symm⟩
  · exact nomatch h
def own_bll (f : Int64 → Int64 → Int64) (pc : Nat) (ls : Array Slot) (st : List Value) : own_R := match st with
  | .long y :: .long x :: u => some (pc + 1, ls, .long (f x y) :: u)
  | _ => none
theorem own_bll_ok {f : Int64 → Int64 → Int64} (h : own_bll f pc ls st = some r) : ∃ x y u, st = .long y :: .long x :: u ∧ r = (pc + 1, ls, .long (f x y) :: u) := by
  unfold own_bll at h
  split at h
  · exact ⟨_, _, _, rfl, (Option.some.inj h).symm⟩
  · exact nomatch h
def own_bli (f : Int64 → Int32 → Int64) (pc : Nat) (ls : Array Slot) (st : List Value) : own_R := match st with
  | .int y :: .long x :: u => some (pc + 1, ls, .long (f x y) :: u)
  | _ => none
theorem own_bli_ok {f : Int64 → Int32 → Int64} (h : own_bli f pc ls st = some r) : ∃ x y u, st = .int y :: .long x :: u ∧ r = (pc + 1, ls, .long (f x y) :: u) := by
  unfold own_bli at h
  split at h
  · exact ⟨_, _, _, rfl, (Option.some.inj h).symm⟩
  · exact nomatch h
def own_bci (f : Int64 → Int64 → Int32) (pc : Nat) (ls : Array Slot) (st : List Value) : own_R := match st with
  | .long y :: .long x :: u => some (pc + 1, ls, .int (f x y) :: u)
  | _ => none
theorem own_bci_ok {f : Int64 → Int64 → Int32} (h : own_bci f pc ls st = some r) : ∃ x y u, st = .long y :: .long x :: u ∧ r = (pc + 1, ls, .int (f x y) :: u) := by
  unfold own_bci at h
  split at h
  · exact ⟨_, _, _, rfl, (Option.some.inj h).symm⟩
  · exact nomatch h
def own_uii (f : Int32 → Int32) (pc : Nat) (ls : Array Slot) (st : List Value) : own_R := match st with
  | .int x :: u => some (pc + 1, ls, .int (f x) :: u)
  | _ => none
theorem own_uii_ok {f : Int32 → Int32} (h : own_uii f pc ls st = some r) : ∃ x u, st = .int x :: u ∧ r = (pc + 1, ls, .int (f x) :: u) := by
  unfold own_uii at h
  split at h
  · exact ⟨_, _, rfl, (Option.some.inj h).symm⟩
  · exact nomatch h
def own_uil (f : Int32 → Int64) (pc : Nat) (ls : Array Slot) (st : List Value) : own_R := match st with
  | .int x :: u => some (pc + 1, ls, .long (f x) :: u)
  | _ => none
theorem own_uil_ok {f : Int32 → Int64} (h : own_uil f pc ls st = some r) : ∃ x u, st = .int x :: u ∧ r = (pc + 1, ls, .long (f x) :: u) := by
  unfold own_uil at h
  split at h
  · exact ⟨_, _, rfl, (Option.some.inj h).symm⟩
  · exact nomatch h
def own_uli (f : Int64 → Int32) (pc : Nat) (ls : Array Slot) (st : List Value) : own_R := match st with
  | .long x :: u => some (pc + 1, ls, .int (f x) :: u)
  | _ => none
theorem own_uli_ok {f : Int64 → Int32} (h : own_uli f pc ls st = some r) : ∃ x u, st = .long x :: u ∧ r = (pc + 1, ls, .int (f x) :: u) := by
  unfold own_uli at h
  split at h
  · exact ⟨_, _, rfl, (Option.some.inj h).symm⟩
  · exact nomatch h
def own_ull (f : Int64 → Int64) (pc : Nat) (ls : Array Slot) (st : List Value) : own_R := match st with
  | .long x :: u => some (pc + 1, ls, .long (f x) :: u)
  | _ => none
theorem own_ull_ok {f : Int64 → Int64} (h : own_ull f pc ls st = some r) : ∃ x u, st = .long x :: u ∧ r = (pc + 1, ls, .long (f x) :: u) := by
  unfold own_ull at h
  split at h
  · exact ⟨_, _, rfl, (Option.some.inj h).symm⟩
  · exact nomatch h
def own_inc (pc : Nat) (ls : Array Slot) (st : List Value) (k : Nat) (z : Int) : own_R := match ls[k]? with
  | some (.val (.int x)) => (match storeLocals ls k (.int (x + Int32.ofInt z)) with | some l' => some (pc + 3, l', st) | none => none)
  | _ => none
theorem own_inc_ok {z : Int} (h : own_inc pc ls st k z = some r) : ∃ x l', ls[k]? = some (.val (.int x)) ∧ storeLocals ls k (.int (x + Int32.ofInt z)) = some l' ∧ r = (pc + 3, l', st) := by
  unfold own_inc at h
  split at h
  · split at h
    · exact ⟨_, _, by assumption, by assumption, (Option.some.inj h).symm⟩
    · exact nomatch h
  · exact nomatch h
def own_dp1 (pc : Nat) (ls : Array Slot) (st : List Value) : own_R := match st with
  | x :: u => own_g x.category 1 (some (pc + 1, ls, x :: x :: u))
  | _ => none
theorem own_dp1_ok (h : own_dp1 pc ls st = some r) : ∃ x u, st = x :: u ∧ x.category = 1 ∧ r = (pc + 1, ls, x :: x :: u) := by
  unfold own_dp1 at h
  split at h
  · obtain ⟨w, h⟩ := own_g_ok h; exact ⟨_, _, rfl, w, (Option.some.inj h).symm⟩
  · exact nomatch h
def own_pp1 (pc : Nat) (ls : Array Slot) (st : List Value) : own_R := match st with
  | x :: u => own_g x.category 1 (some (pc + 1, ls, u))
  | _ => none
theorem own_pp1_ok (h : own_pp1 pc ls st = some r) : ∃ x u, st = x :: u ∧ x.category = 1 ∧ r = (pc + 1, ls, u) := by
  unfold own_pp1 at h
  split at h
  · obtain ⟨w, h⟩ := own_g_ok h; exact ⟨_, _, rfl, w, (Option.some.inj h).symm⟩
  · exact nomatch h
def own_dx1 (pc : Nat) (ls : Array Slot) (st : List Value) : own_R := match st with
  | x :: y :: u => own_g x.category 1 (own_g y.category 1 (some (pc + 1, ls, x :: y :: x :: u)))
  | _ => none
theorem own_dx1_ok (h : own_dx1 pc ls st = some r) : ∃ x y u, st = x :: y :: u ∧ x.category = 1 ∧ y.category = 1 ∧ r = (pc + 1, ls, x :: y :: x :: u) := by
  unfold own_dx1 at h
  split at h
  · obtain ⟨w, h⟩ := own_g_ok h; obtain ⟨w', h⟩ := own_g_ok h; exact ⟨_, _, _, rfl, w, w', (Option.some.inj h).symm⟩
  · exact nomatch h
def own_dp2 (pc : Nat) (ls : Array Slot) (st : List Value) : own_R := match st with
  | x :: y :: u => own_g x.category 1 (own_g y.category 1 (some (pc + 1, ls, x :: y :: x :: y :: u)))
  | _ => none
theorem own_dp2_ok (h : own_dp2 pc ls st = some r) : ∃ x y u, st = x :: y :: u ∧ x.category = 1 ∧ y.category = 1 ∧ r = (pc + 1, ls, x :: y :: x :: y :: u) := by
  unfold own_dp2 at h
  split at h
  · obtain ⟨w, h⟩ := own_g_ok h; obtain ⟨w', h⟩ := own_g_ok h; exact ⟨_, _, _, rfl, w, w', (Option.some.inj h).symm⟩
  · exact nomatch h
def own_jmp (pc : Nat) (ls : Array Slot) (st : List Value) (o : Int) : own_R := match (pc : Int) + o with
  | .ofNat n => some (n, ls, st)
  | .negSucc _ => none
theorem own_jmp_ok {o : Int} (h : own_jmp pc ls st o = some r) : 0 ≤ (pc : Int) + o ∧ r = (((pc : Int) + o).toNat, ls, st) := by
  unfold own_jmp at h
  split at h
  · rename_i n w; rw [w]; exact ⟨Int.natCast_nonneg n, (Option.some.inj h).symm⟩
  · exact nomatch h
def own_ifc (cd : ClassFile.Cond) (o : Int) (pc : Nat) (ls : Array Slot) (st : List Value) : own_R := match st with
  | .int x :: u => (match ifCond.holds cd x with | true => own_jmp pc ls u o | false => some (pc + 3, ls, u))
  | _ => none
theorem own_ifc_ok {cd : ClassFile.Cond} {o : Int} (h : own_ifc cd o pc ls st = some r) : ∃ x u, st = .int x :: u ∧ ((ifCond.holds cd x = true ∧ 0 ≤ (pc : Int) + o ∧ r = (((pc : Int) + o).toNat, ls, u)) ∨ (ifCond.holds cd x = false ∧ r = (pc + 3, ls, u))) := by
  unfold own_ifc at h
  split at h
  · refine ⟨_, _, rfl, ?_⟩
    split at h
    · exact Or.inl ⟨by assumption, own_jmp_ok h⟩
    · exact Or.inr ⟨by assumption, (Option.some.inj h).symm⟩
  · exact nomatch h
def own_icm (cd : ClassFile.Cond) (o : Int) (pc : Nat) (ls : Array Slot) (st : List Value) : own_R := match st with
  | .int y :: .int x :: u => (match if_icmp.holds cd x y with | true => own_jmp pc ls u o | false => some (pc + 3, ls, u))
  | _ => none
theorem own_icm_ok {cd : ClassFile.Cond} {o : Int} (h : own_icm cd o pc ls st = some r) : ∃ x y u, st = .int y :: .int x :: u ∧ ((if_icmp.holds cd x y = true ∧ 0 ≤ (pc : Int) + o ∧ r = (((pc : Int) + o).toNat, ls, u)) ∨ (if_icmp.holds cd x y = false ∧ r = (pc + 3, ls, u))) := by
  unfold own_icm at h
  split at h
  · refine ⟨_, _, _, rfl, ?_⟩
    split at h
    · exact Or.inl ⟨by assumption, own_jmp_ok h⟩
    · exact Or.inr ⟨by assumption, (Option.some.inj h).symm⟩
  · exact nomatch h
def own_ifn (o : Int) (pc : Nat) (ls : Array Slot) (st : List Value) : own_R := match st with
  | .null :: u => own_jmp pc ls u o
  | .ref b :: u => some (pc + 3, ls, u)
  | _ => none
theorem own_ifn_ok {o : Int} (h : own_ifn o pc ls st = some r) : ∃ u, (st = .null :: u ∧ 0 ≤ (pc : Int) + o ∧ r = (((pc : Int) + o).toNat, ls, u)) ∨ (∃ b, st = .ref b :: u ∧ r = (pc + 3, ls, u)) := by
  unfold own_ifn at h
  split at h
  · exact ⟨_, Or.inl ⟨rfl, own_jmp_ok h⟩⟩
  · exact ⟨_, Or.inr ⟨_, rfl, (Option.some.inj h).symm⟩⟩
  · exact nomatch h
def own_inn (o : Int) (pc : Nat) (ls : Array Slot) (st : List Value) : own_R := match st with
  | .ref b :: u => own_jmp pc ls u o
  | .null :: u => some (pc + 3, ls, u)
  | _ => none
theorem own_inn_ok {o : Int} (h : own_inn o pc ls st = some r) : ∃ u, (∃ b, st = .ref b :: u ∧ 0 ≤ (pc : Int) + o ∧ r = (((pc : Int) + o).toNat, ls, u)) ∨ (st = .null :: u ∧ r = (pc + 3, ls, u)) := by
  unfold own_inn at h
  split at h
  · exact ⟨_, Or.inl ⟨_, rfl, own_jmp_ok h⟩⟩
  · exact ⟨_, Or.inr ⟨rfl, (Option.some.inj h).symm⟩⟩
  · exact nomatch h
def own_step (i : Instr) (ln : Nat) (pc : Nat) (ls : Array Slot) (st : List Value) : own_R := match i with
  | .iload k => own_g ln 2 (own_ldi pc ls st k 2)
  | .iload_n k => own_g ln 1 (own_ldi pc ls st k.val 1)
  | .lload k => own_g ln 2 (own_ldl pc ls st k 2)
  | .lload_n k => own_g ln 1 (own_ldl pc ls st k.val 1)
  | .aload k => own_g ln 2 (own_lda pc ls st k 2)
  | .aload_n k => own_g ln 1 (own_lda pc ls st k.val 1)
  | .istore k => own_g ln 2 (own_sti pc ls st k 2)
  | .istore_n k => own_g ln 1 (own_sti pc ls st k.val 1)
  | .lstore k => own_g ln 2 (own_stl pc ls st k 2)
  | .lstore_n k => own_g ln 1 (own_stl pc ls st k.val 1)
  | .astore k => own_g ln 2 (own_sta pc ls st k 2)
  | .astore_n k => own_g ln 1 (own_sta pc ls st k.val 1)
  | .iconst i => own_g ln 1 (some (pc + 1, ls, .int (Int32.ofInt i) :: st))
  | .bipush i => own_g ln 2 (some (pc + 2, ls, .int (Int8.ofInt i).toInt32 :: st))
  | .sipush i => own_g ln 3 (some (pc + 3, ls, .int (Int16.ofInt i).toInt32 :: st))
  | .lconst i => own_g ln 1 (some (pc + 1, ls, .long (Int64.ofNat i) :: st))
  | .aconst_null => own_g ln 1 (some (pc + 1, ls, .null :: st))
  | .iadd => own_g ln 1 (own_bii (fun x y => x + y) pc ls st)
  | .ladd => own_g ln 1 (own_bll (fun x y => x + y) pc ls st)
  | .isub => own_g ln 1 (own_bii (fun x y => x - y) pc ls st)
  | .lsub => own_g ln 1 (own_bll (fun x y => x - y) pc ls st)
  | .imul => own_g ln 1 (own_bii (fun x y => x * y) pc ls st)
  | .lmul => own_g ln 1 (own_bll (fun x y => x * y) pc ls st)
  | .iand => own_g ln 1 (own_bii (fun x y => x &&& y) pc ls st)
  | .land => own_g ln 1 (own_bll (fun x y => x &&& y) pc ls st)
  | .ior => own_g ln 1 (own_bii (fun x y => x ||| y) pc ls st)
  | .lor => own_g ln 1 (own_bll (fun x y => x ||| y) pc ls st)
  | .ixor => own_g ln 1 (own_bii (fun x y => x ^^^ y) pc ls st)
  | .lxor => own_g ln 1 (own_bll (fun x y => x ^^^ y) pc ls st)
  | .ishl => own_g ln 1 (own_bii (fun x y => x <<< (y &&& 31)) pc ls st)
  | .ishr => own_g ln 1 (own_bii (fun x y => x >>> (y &&& 31)) pc ls st)
  | .iushr => own_g ln 1 (own_bii (fun x y => (x.toUInt32 >>> (y &&& 31).toUInt32).toInt32) pc ls st)
  | .lshl => own_g ln 1 (own_bli (fun x y => x <<< (y &&& 0x3f).toInt64) pc ls st)
  | .lshr => own_g ln 1 (own_bli (fun x y => x >>> (y &&& 0x3f).toInt64) pc ls st)
  | .lushr => own_g ln 1 (own_bli (fun x y => (x.toUInt64 >>> (y &&& 0x3f).toInt64.toUInt64).toInt64) pc ls st)
  | .lcmp => own_g ln 1 (own_bci (fun x y => if x > y then 1 else if x = y then 0 else -1) pc ls st)
  | .ineg => own_g ln 1 (own_uii (fun x => -x) pc ls st)
  | .lneg => own_g ln 1 (own_ull (fun x => -x) pc ls st)
  | .i2l => own_g ln 1 (own_uil (fun x => x.toInt64) pc ls st)
  | .l2i => own_g ln 1 (own_uli (fun x => x.toInt32) pc ls st)
  | .i2b => own_g ln 1 (own_uii (fun x => x.toInt8.toInt32) pc ls st)
  | .i2s => own_g ln 1 (own_uii (fun x => x.toInt16.toInt32) pc ls st)
  | .i2c => own_g ln 1 (own_uii (fun x => x.toUInt32.toUInt16.toUInt32.toInt32) pc ls st)
  | .iinc k z => own_g ln 3 (own_inc pc ls st k z)
  | .dup => own_g ln 1 (own_dp1 pc ls st)
  | .pop => own_g ln 1 (own_pp1 pc ls st)
  | .dup_x1 => own_g ln 1 (own_dx1 pc ls st)
  | .dup2 => own_g ln 1 (own_dp2 pc ls st)
  | .goto o => own_g ln 3 (own_jmp pc ls st o)
  | .ifCond cd o => own_g ln 3 (own_ifc cd o pc ls st)
  | .if_icmp cd o => own_g ln 3 (own_icm cd o pc ls st)
  | .ifnull o => own_g ln 3 (own_ifn o pc ls st)
  | .ifnonnull o => own_g ln 3 (own_inn o pc ls st)
  | _ => none
theorem own_step_ok (X : Stand p l e R s m args below meth c T locs cells slots) (hx : p.tables.exec = Jvm.exec) {ln : Nat} (i : Instr) (hd : decode c.code pc = .ok (i, ln)) (h : own_step i ln pc ls st = some r) {t : State} (kk : Steps p.tables e below (T.setTop (mkF m r.1 r.2.1 r.2.2)) t) : Steps p.tables e below (T.setTop (mkF m pc ls st)) t := by
  cases i
  case iload k =>
    obtain ⟨rfl, h⟩ := own_g_ok h
    obtain ⟨v, hl, rfl⟩ := own_ldi_ok h
    exact XS.iload X.here hx rfl hd hl kk
  case iload_n k =>
    obtain ⟨rfl, h⟩ := own_g_ok h
    obtain ⟨v, hl, rfl⟩ := own_ldi_ok h
    exact XS.iloadN X.here hx rfl hd hl kk
  case lload k =>
    obtain ⟨rfl, h⟩ := own_g_ok h
    obtain ⟨v, hl, rfl⟩ := own_ldl_ok h
    exact XS.lload X.here hx rfl hd hl kk
  case lload_n k =>
    obtain ⟨rfl, h⟩ := own_g_ok h
    obtain ⟨v, hl, rfl⟩ := own_ldl_ok h
    exact XS.lloadN X.here hx rfl hd hl kk
  case aload k =>
    obtain ⟨rfl, h⟩ := own_g_ok h
    obtain ⟨v, hl, hv, rfl⟩ := own_lda_ok h
    exact XS.aload X.here hx rfl hd hl hv kk
  case aload_n k =>
    obtain ⟨rfl, h⟩ := own_g_ok h
    obtain ⟨v, hl, hv, rfl⟩ := own_lda_ok h
    exact XS.aloadN X.here hx rfl hd hl hv kk
  case istore k =>
    obtain ⟨rfl, h⟩ := own_g_ok h
    obtain ⟨v, u, l', rfl, hl, rfl⟩ := own_sti_ok h
    exact XS.istore X.here hx rfl hd rfl hl kk
  case istore_n k =>
    obtain ⟨rfl, h⟩ := own_g_ok h
    obtain ⟨v, u, l', rfl, hl, rfl⟩ := own_sti_ok h
    exact XS.istoreN X.here hx rfl hd rfl hl kk
  case lstore k =>
    obtain ⟨rfl, h⟩ := own_g_ok h
    obtain ⟨v, u, l', rfl, hl, rfl⟩ := own_stl_ok h
    exact XS.lstore X.here hx rfl hd rfl hl kk
  case lstore_n k =>
    obtain ⟨rfl, h⟩ := own_g_ok h
    obtain ⟨v, u, l', rfl, hl, rfl⟩ := own_stl_ok h
    exact XS.lstoreN X.here hx rfl hd rfl hl kk
  case astore k =>
    obtain ⟨rfl, h⟩ := own_g_ok h
    obtain ⟨v, u, l', rfl, hv, hl, rfl⟩ := own_sta_ok h
    exact XS.astore X.here hx rfl hd rfl hv hl kk
  case astore_n k =>
    obtain ⟨rfl, h⟩ := own_g_ok h
    obtain ⟨v, u, l', rfl, hv, hl, rfl⟩ := own_sta_ok h
    exact XS.astoreN X.here hx rfl hd rfl hv hl kk
  case iconst i =>
    obtain ⟨rfl, h⟩ := own_g_ok h
    obtain rfl := Option.some.inj h
    exact XS.iconst X.here hx rfl hd kk
  case bipush i =>
    obtain ⟨rfl, h⟩ := own_g_ok h
    obtain rfl := Option.some.inj h
    exact XS.bipush X.here hx rfl hd kk
  case sipush i =>
    obtain ⟨rfl, h⟩ := own_g_ok h
    obtain rfl := Option.some.inj h
    exact XS.sipush X.here hx rfl hd kk
  case lconst i =>
    obtain ⟨rfl, h⟩ := own_g_ok h
    obtain rfl := Option.some.inj h
    exact XS.lconst X.here hx rfl hd kk
  case aconst_null =>
    obtain ⟨rfl, h⟩ := own_g_ok h
    obtain rfl := Option.some.inj h
    exact XS.aconstNull X.here hx rfl hd kk
  case iadd =>
    obtain ⟨rfl, h⟩ := own_g_ok h
    obtain ⟨x, y, u, rfl, rfl⟩ := own_bii_ok h
    exact XS.iadd X.here hx rfl hd rfl kk
  case ladd =>
    obtain ⟨rfl, h⟩ := own_g_ok h
    obtain ⟨x, y, u, rfl, rfl⟩ := own_bll_ok h
    exact XS.ladd X.here hx rfl hd rfl kk
  case isub =>
    obtain ⟨rfl, h⟩ := own_g_ok h
    obtain ⟨x, y, u, rfl, rfl⟩ := own_bii_ok h
    exact XS.isub X.here hx rfl hd rfl kk
  case lsub =>
    obtain ⟨rfl, h⟩ := own_g_ok h
    obtain ⟨x, y, u, rfl, rfl⟩ := own_bll_ok h
    exact XS.lsub X.here hx rfl hd rfl kk
  case imul =>
    obtain ⟨rfl, h⟩ := own_g_ok h
    obtain ⟨x, y, u, rfl, rfl⟩ := own_bii_ok h
    exact XS.imul X.here hx rfl hd rfl kk
  case lmul =>
    obtain ⟨rfl, h⟩ := own_g_ok h
    obtain ⟨x, y, u, rfl, rfl⟩ := own_bll_ok h
    exact XS.lmul X.here hx rfl hd rfl kk
  case iand =>
    obtain ⟨rfl, h⟩ := own_g_ok h
    obtain ⟨x, y, u, rfl, rfl⟩ := own_bii_ok h
    exact XS.iand X.here hx rfl hd rfl kk
  case land =>
    obtain ⟨rfl, h⟩ := own_g_ok h
    obtain ⟨x, y, u, rfl, rfl⟩ := own_bll_ok h
    exact XS.land X.here hx rfl hd rfl kk
  case ior =>
    obtain ⟨rfl, h⟩ := own_g_ok h
    obtain ⟨x, y, u, rfl, rfl⟩ := own_bii_ok h
    exact XS.ior X.here hx rfl hd rfl kk
  case lor =>
    obtain ⟨rfl, h⟩ := own_g_ok h
    obtain ⟨x, y, u, rfl, rfl⟩ := own_bll_ok h
    exact XS.lor X.here hx rfl hd rfl kk
  case ixor =>
    obtain ⟨rfl, h⟩ := own_g_ok h
    obtain ⟨x, y, u, rfl, rfl⟩ := own_bii_ok h
    exact XS.ixor X.here hx rfl hd rfl kk
  case lxor =>
    obtain ⟨rfl, h⟩ := own_g_ok h
    obtain ⟨x, y, u, rfl, rfl⟩ := own_bll_ok h
    exact XS.lxor X.here hx rfl hd rfl kk
  case ishl =>
    obtain ⟨rfl, h⟩ := own_g_ok h
    obtain ⟨x, y, u, rfl, rfl⟩ := own_bii_ok h
    exact XS.ishl X.here hx rfl hd rfl kk
  case ishr =>
    obtain ⟨rfl, h⟩ := own_g_ok h
    obtain ⟨x, y, u, rfl, rfl⟩ := own_bii_ok h
    exact XS.ishr X.here hx rfl hd rfl kk
  case iushr =>
    obtain ⟨rfl, h⟩ := own_g_ok h
    obtain ⟨x, y, u, rfl, rfl⟩ := own_bii_ok h
    exact XS.iushr X.here hx rfl hd rfl kk
  case lshl =>
    obtain ⟨rfl, h⟩ := own_g_ok h
    obtain ⟨x, y, u, rfl, rfl⟩ := own_bli_ok h
    exact XS.lshl X.here hx rfl hd rfl kk
  case lshr =>
    obtain ⟨rfl, h⟩ := own_g_ok h
    obtain ⟨x, y, u, rfl, rfl⟩ := own_bli_ok h
    exact XS.lshr X.here hx rfl hd rfl kk
  case lushr =>
    obtain ⟨rfl, h⟩ := own_g_ok h
    obtain ⟨x, y, u, rfl, rfl⟩ := own_bli_ok h
    exact XS.lushr X.here hx rfl hd rfl kk
  case lcmp =>
    obtain ⟨rfl, h⟩ := own_g_ok h
    obtain ⟨x, y, u, rfl, rfl⟩ := own_bci_ok h
    exact XS.lcmp X.here hx rfl hd rfl kk
  case ineg =>
    obtain ⟨rfl, h⟩ := own_g_ok h
    obtain ⟨x, u, rfl, rfl⟩ := own_uii_ok h
    exact XS.ineg X.here hx rfl hd rfl kk
  case lneg =>
    obtain ⟨rfl, h⟩ := own_g_ok h
    obtain ⟨x, u, rfl, rfl⟩ := own_ull_ok h
    exact XS.lneg X.here hx rfl hd rfl kk
  case i2l =>
    obtain ⟨rfl, h⟩ := own_g_ok h
    obtain ⟨x, u, rfl, rfl⟩ := own_uil_ok h
    exact XS.i2l X.here hx rfl hd rfl kk
  case l2i =>
    obtain ⟨rfl, h⟩ := own_g_ok h
    obtain ⟨x, u, rfl, rfl⟩ := own_uli_ok h
    exact XS.l2i X.here hx rfl hd rfl kk
  case i2b =>
    obtain ⟨rfl, h⟩ := own_g_ok h
    obtain ⟨x, u, rfl, rfl⟩ := own_uii_ok h
    exact XS.i2b X.here hx rfl hd rfl kk
  case i2s =>
    obtain ⟨rfl, h⟩ := own_g_ok h
    obtain ⟨x, u, rfl, rfl⟩ := own_uii_ok h
    exact XS.i2s X.here hx rfl hd rfl kk
  case i2c =>
    obtain ⟨rfl, h⟩ := own_g_ok h
    obtain ⟨x, u, rfl, rfl⟩ := own_uii_ok h
    exact XS.i2c X.here hx rfl hd rfl kk
  case iinc k z =>
    obtain ⟨rfl, h⟩ := own_g_ok h
    obtain ⟨x, l', hl, hl', rfl⟩ := own_inc_ok h
    exact XS.iinc X.here hx rfl hd hl hl' kk
  case dup =>
    obtain ⟨rfl, h⟩ := own_g_ok h
    obtain ⟨x, u, rfl, w, rfl⟩ := own_dp1_ok h
    exact XS.dup X.here hx rfl hd rfl w kk
  case pop =>
    obtain ⟨rfl, h⟩ := own_g_ok h
    obtain ⟨x, u, rfl, w, rfl⟩ := own_pp1_ok h
    exact XS.pop X.here hx rfl hd rfl w kk
  case dup_x1 =>
    obtain ⟨rfl, h⟩ := own_g_ok h
    obtain ⟨x, y, u, rfl, w, w', rfl⟩ := own_dx1_ok h
    exact XS.dupX1 X.here hx rfl hd rfl w w' kk
  case dup2 =>
    obtain ⟨rfl, h⟩ := own_g_ok h
    obtain ⟨x, y, u, rfl, w, w', rfl⟩ := own_dp2_ok h
    exact own_dup2 X.here hx rfl hd rfl w w' kk
  case goto o =>
    obtain ⟨rfl, h⟩ := own_g_ok h
    obtain ⟨w, rfl⟩ := own_jmp_ok h
    exact XS.goto X.here hx rfl (pc0 := pc) rfl hd w rfl kk
  case ifCond cd o =>
    obtain ⟨rfl, h⟩ := own_g_ok h
    obtain ⟨x, u, rfl, ⟨w, w', rfl⟩ | ⟨w, rfl⟩⟩ := own_ifc_ok h
    · exact XS.ifYes X.here hx rfl (pc0 := pc) rfl hd rfl w w' rfl kk
    · exact XS.ifNo X.here hx rfl hd rfl w kk
  case if_icmp cd o =>
    obtain ⟨rfl, h⟩ := own_g_ok h
    obtain ⟨x, y, u, rfl, ⟨w, w', rfl⟩ | ⟨w, rfl⟩⟩ := own_icm_ok h
    · exact XS.icmpYes X.here hx rfl (pc0 := pc) rfl hd rfl w w' rfl kk
    · exact XS.icmpNo X.here hx rfl hd rfl w kk
  case ifnull o =>
    obtain ⟨rfl, h⟩ := own_g_ok h
    obtain ⟨u, ⟨rfl, w', rfl⟩ | ⟨b, rfl, rfl⟩⟩ := own_ifn_ok h
    · exact XS.ifnullYes X.here hx rfl (pc0 := pc) rfl hd rfl w' rfl kk
    · exact XS.ifnullNo X.here hx rfl hd rfl kk
  case ifnonnull o =>
    obtain ⟨rfl, h⟩ := own_g_ok h
    obtain ⟨u, ⟨b, rfl, w', rfl⟩ | ⟨rfl, rfl⟩⟩ := own_inn_ok h
    · exact XS.ifnonnullYes X.here hx rfl (pc0 := pc) rfl hd rfl w' rfl kk
    · exact XS.ifnonnullNo X.here hx rfl hd rfl kk
  all_goals exact nomatch (show (none : own_R) = some _ from h)
def own_fetch (M : Nat) (f : Nat → Option (Instr × Nat)) (pc : Nat) : Option (Instr × Nat) := bif Nat.ble pc M then f pc else none
def own_exec (M : Nat) (f : Nat → Option (Instr × Nat)) : Nat → Nat → Array Slot → List Value → own_R
  | 0, pc, ls, st => some (pc, ls, st)
  | n + 1, pc, ls, st => match own_fetch M f pc with
    | some (i, ln) => (match own_step i ln pc ls st with
      | some (pc', ls', st') => own_exec M f n pc' ls' st'
      | none => none)
    | none => none
def own_chk (code : ByteArray) (f : Nat → Option (Instr × Nat)) (pc : Nat) : Bool := match f pc with
  | some q => decide (decode code pc = .ok q)
  | none => true
theorem own_tab {M : Nat} {f : Nat → Option (Instr × Nat)} {code : ByteArray} (H : ∀ pc, pc < M + 1 → own_chk code f pc = true) (pc : Nat) (q : Instr × Nat) (h : own_fetch M f pc = some q) : decode code pc = .ok q := by
  unfold own_fetch at h
  cases w : Nat.ble pc M with
  | false => rw [w] at h; exact nomatch h
  | true =>
    rw [w] at h
    have h' : f pc = some q := h
    have u := H pc (Nat.lt_succ_of_le (Nat.le_of_ble_eq_true w))
    unfold own_chk at u
    rw [h'] at u
    exact of_decide_eq_true u
def own_T (p : Program) (c : Code) (M : Nat) (f : Nat → Option (Instr × Nat)) : Prop := p.tables.exec = Jvm.exec ∧ ∀ pc q, own_fetch M f pc = some q → decode c.code pc = .ok q
theorem own_tt {M : Nat} {f : Nat → Option (Instr × Nat)} {code : ByteArray} (hx : p.tables.exec = Jvm.exec) (hby : c.code = code) (H : ∀ pc q, own_fetch M f pc = some q → decode code pc = .ok q) : own_T p c M f := ⟨hx, fun pc q h => hb hby (H pc q h)⟩
theorem own_r {M : Nat} {f : Nat → Option (Instr × Nat)} (X : Stand p l e R s m args below meth c T locs cells slots) (tt : own_T p c M f) (pc n : Nat) {ls : Array Slot} {st : List Value} {pc' : Nat} {ls' : Array Slot} {st' : List Value} (h : own_exec M f n pc ls st = some (pc', ls', st')) {t : State} (kk : Steps p.tables e below (T.setTop (mkF m pc' ls' st')) t) : Steps p.tables e below (T.setTop (mkF m pc ls st)) t := by
  induction n generalizing pc ls st with
  | zero => cases h; exact kk
  | succ n ih =>
    unfold own_exec at h
    split at h
    · split at h
      · exact own_step_ok X tt.1 _ (tt.2 _ _ (by assumption)) (by assumption) (ih _ h)
      · exact nomatch h
    · exact nomatch h
theorem own_e {M : Nat} {f : Nat → Option (Instr × Nat)} (X : Stand p l e R s m args below meth c T locs cells slots) (tt : own_T p c M f) (pc n : Nat) {ls : Array Slot} {st : List Value} {pc' : Nat} {ls' : Array Slot} {st' : List Value} {t : State} (kk : Steps p.tables e below (T.setTop (mkF m pc' ls' st')) t) (h : own_exec M f n pc ls st = some (pc', ls', st')) : Steps p.tables e below (T.setTop (mkF m pc ls st)) t := own_r X tt pc n h kk
theorem oN {r : Option FieldType} {t : FieldType} {v : Option Value} (h : r = some t) : r = none → v = none := fun q => by rw [h] at q; cases q
theorem oL {a b c : Nat} (h : a < b) (h2 : b ≤ c) : a ≠ c := Nat.ne_of_lt (oW h h2)
theorem oM {a b c : Nat} (h : a < b) (h2 : b ≤ c) : c ≠ a := Nat.ne_of_gt (oW h h2)
abbrev oRm (f c s l : Nat) : Room := { frames := f, cells := c, slots := s, locals := l }
abbrev own_Met (l : Launch) (y : MethodName) (b : ByteArray) (ml : Nat) (ret : Option FieldType) (ws : List Jvm.Cond) (rm : Room) (A : Array Value) (Z : State) (h0 : Heap) (Q : Option Value → Heap → List Loc → Prop) : Prop :=
  MetFree l y (head1 (Jvm.Cond.code y b ml ret :: ws) rm) (fun a U => a = A ∧ Z.Warmed39 U.vm ∧ U.heap = h0) (fun _ _ _ _ _ => True) (fun _ U o U' => ∃ v L, o = .returned v ∧ Q v U'.heap L ∧ FrameEnd U o U' L rm.cells rm.slots)
theorem own_met {l : Launch} {y : MethodName} {b : ByteArray} {ml : Nat} {ret : Option FieldType} {ws : List Jvm.Cond} {rm : Room} {A : Array Value} {Z : State} {h0 : Heap} {Q : Option Value → Heap → List Loc → Prop} {own : String} (ho : y.cls = own) (hp : plainFor y = true)
    (H : ∀ (p : Program) (e : Env) (s : State) (m : MethodId) (below : List Frame) (meth : Method) (c : Code) (s₁ : State), p.tables.exec = Jvm.exec → c.code = b → c.maxLocals = ml → Z.Warmed39 s.vm → s.vm.findClass own = some m.cls → meth.name = y.name → Stand p l e rm s m A below meth c s₁ [] 0 0 → s₁.heap = h0 → meth.sig.returnType = ret → meth.locks = false → own_Ends p e below s Q rm.cells rm.slots s₁ (entryFrame m A ml)) : own_Met l y b ml ret ws rm A Z h0 Q := by
  subst ho
  refine MetFree.of_bodySF hp hisR ?_
  intro p e s m args below meth c s₁ Bd hml0 hP hK
  obtain ⟨rfl, hZ, hh⟩ := hP
  exact H p e s m below meth c s₁ Bd.exec Bd.bytes hml0 hZ (findClass_of_methodNamed Bd.named) (name_of_methodNamed Bd.named Bd.method).1 (Stand.of_body Bd) (by rw [← hh, Bd.state]; rfl) Bd.returns Bd.notSynchronized
end Run
section Mem
variable {p : Program} {l : Launch} {e : Env} {R : Room} {s : State} {m : MethodId} {args : Array Value} {below : List Frame} {meth : Method} {c : Code} {T : State} {locs : List Loc} {cells slots cc nn : Nat} {Q : Option Value → Heap → List Loc → Prop} {Z : State} {h h' : Heap} {a0 : Array Value} {own : String} {n0 : Nat}
/-- addresses by number: the k-th of a list -/
def rnV (as : List Addr) (v : Value) : Value := match v with
  | .ref k => .ref (as.getD k 0)
  | v => v
def rnS (as : List Addr) (s : Slot) : Slot := match s with
  | .val v => .val (rnV as v)
  | s => s
abbrev rnF (m : MethodId) (as : List Addr) (pc : Nat) (ls : Array Slot) (st : List Value) : JFrame := mkF m pc (ls.map (rnS as)) (st.map (rnV as))
abbrev own_Me := List (Nat × FieldType × Int32 × List Value)
abbrev own_Fe := List (Nat × Nat × String × String × String × Value)
def own_dv (ty : FieldType) : Value := match ty with
  | .long => .long 0
  | .int => .int 0
  | .boolean => .int 0
  | _ => .null
def own_MO (Z : State) (h : Heap) (as : List Addr) (kc : List ClassId) : own_Me → Prop
  | [] => True
  | q :: r => Arv Z h (as.getD q.1 0) (kc.getD q.1 0) q.2.1 q.2.2.1 (q.2.2.2.map (rnV as)) (own_dv q.2.1) ∧ own_MO Z h as kc r
def own_FO (Z : State) (h : Heap) (as : List Addr) : own_Fe → Prop
  | [] => True
  | q :: r => Fld Z h (as.getD q.1 0) q.2.2.1 q.2.2.2.1 q.2.2.2.2.1 (rnV as q.2.2.2.2.2) ∧ own_FO Z h as r
def own_lk (k : Nat) : own_Me → Option (FieldType × Int32 × List Value)
  | [] => none
  | q :: r => bif Nat.beq k q.1 then some q.2 else own_lk k r
def own_up (k : Nat) (vs : List Value) : own_Me → own_Me
  | [] => []
  | q :: r => bif Nat.beq k q.1 then (q.1, q.2.1, q.2.2.1, vs) :: r else q :: own_up k vs r
def own_lf (k i : Nat) : own_Fe → Option Value
  | [] => none
  | q :: r => bif Nat.beq k q.1 && Nat.beq i q.2.1 then some q.2.2.2.2.2 else own_lf k i r
variable {pc k n : Nat} {ls : Array Slot} {st : List Value} {r : Nat × Array Slot × List Value} {as : List Addr}
theorem own_cat (v : Value) : (rnV as v).category = v.category := by cases v <;> rfl
theorem own_gm {x : Slot} (hl : ls[k]? = some x) : (ls.map (rnS as))[k]? = some (rnS as x) := by rw [Array.getElem?_map, hl]; rfl
theorem own_store1 {l l' : Array Slot} {i : Nat} {v : Value} {o : Slot} (hold : l[i]? = some o) (ho : o = .unset ∨ ∃ w, o = .val w ∧ w.category = 1) (hv : v.category = 1) (hh : storeLocals l i v = some l') : storeLocals (l.map (rnS as)) i (rnV as v) = some (l'.map (rnS as)) := by
  rw [XS.store1 hold ho hv] at hh
  cases hh
  have h2 : (l.map (rnS as))[i]? = some (rnS as o) := own_gm hold
  rw [XS.store1 h2 (by rcases ho with rfl | ⟨w, rfl, hw⟩; exact Or.inl rfl; exact Or.inr ⟨_, rfl, by rw [own_cat]; exact hw⟩) (by rw [own_cat]; exact hv), Array.map_setIfInBounds]
  rfl
theorem own_setAt {l l' : Array Slot} {i : Nat} {x : Slot} (hh : setAt l i x = some l') : setAt (l.map (rnS as)) i (rnS as x) = some (l'.map (rnS as)) := by
  have e : ∀ (l : Array Slot) (x : Slot), setAt l i x = if i < l.size then some (l.setIfInBounds i x) else none := fun _ _ => rfl
  rw [e] at hh ⊢
  rw [Array.size_map]
  by_cases q : i < l.size
  · rw [if_pos q] at hh ⊢; cases hh; rw [Array.map_setIfInBounds]
  · rw [if_neg q] at hh; exact nomatch hh
theorem own_ss {l l' : Array Slot} {i : Nat} {x : Int64} (hh : storeSelf l i (.long x) = some l') : storeSelf (l.map (rnS as)) i (.long x) = some (l'.map (rnS as)) := by
  have e : ∀ (l : Array Slot), storeSelf l i (.long x) = (setAt l i (.val (.long x))).bind fun l => (l[i + 1]?).bind fun o => match o with
    | .val old => if old.category = 2 then (setAt l (i + 2) .unset).bind fun l => setAt l (i + 1) .second else setAt l (i + 1) .second
    | _ => setAt l (i + 1) .second := fun _ => rfl
  rw [e] at hh ⊢
  obtain ⟨l1, h1, h2⟩ := Option.bind_eq_some_iff.mp hh
  obtain ⟨o, h3, h4⟩ := Option.bind_eq_some_iff.mp h2
  refine Option.bind_eq_some_iff.mpr ⟨l1.map (rnS as), own_setAt h1, Option.bind_eq_some_iff.mpr ⟨rnS as o, own_gm h3, ?_⟩⟩
  cases o with
  | unset => exact own_setAt h4
  | second => exact own_setAt h4
  | val w =>
    have h4' : (if w.category = 2 then (setAt l1 (i + 2) .unset).bind fun l => setAt l (i + 1) .second else setAt l1 (i + 1) .second) = some l' := h4
    show (if (rnV as w).category = 2 then (setAt (l1.map (rnS as)) (i + 2) .unset).bind fun l => setAt l (i + 1) .second else setAt (l1.map (rnS as)) (i + 1) .second) = _
    rw [own_cat]
    by_cases q : w.category = 2
    · rw [if_pos q] at h4' ⊢
      obtain ⟨l2, h5, h6⟩ := Option.bind_eq_some_iff.mp h4'
      exact Option.bind_eq_some_iff.mpr ⟨l2.map (rnS as), own_setAt h5, own_setAt h6⟩
    · rw [if_neg q] at h4' ⊢; exact own_setAt h4'
theorem own_sl {l l' : Array Slot} {i : Nat} {x : Int64} (hh : storeLocals l i (.long x) = some l') : storeLocals (l.map (rnS as)) i (.long x) = some (l'.map (rnS as)) := by
  have e : ∀ (l : Array Slot), storeLocals l i (.long x) = (l[i]?).bind fun o => match o with
    | .second => (setAt l (i - 1) .unset).bind fun l => storeSelf l i (.long x)
    | .val old => if old.category = 2 then (setAt l (i + 1) .unset).bind fun l => storeSelf l i (.long x) else storeSelf l i (.long x)
    | .unset => storeSelf l i (.long x) := fun _ => rfl
  rw [e] at hh ⊢
  obtain ⟨o, h3, h4⟩ := Option.bind_eq_some_iff.mp hh
  refine Option.bind_eq_some_iff.mpr ⟨rnS as o, own_gm h3, ?_⟩
  cases o with
  | unset => exact own_ss h4
  | second =>
    obtain ⟨l2, h5, h6⟩ := Option.bind_eq_some_iff.mp h4
    exact Option.bind_eq_some_iff.mpr ⟨l2.map (rnS as), own_setAt h5, own_ss h6⟩
  | val w =>
    have h4' : (if w.category = 2 then (setAt l (i + 1) .unset).bind fun l => storeSelf l i (.long x) else storeSelf l i (.long x)) = some l' := h4
    show (if (rnV as w).category = 2 then (setAt (l.map (rnS as)) (i + 1) .unset).bind fun l => storeSelf l i (.long x) else storeSelf (l.map (rnS as)) i (.long x)) = _
    rw [own_cat]
    by_cases q : w.category = 2
    · rw [if_pos q] at h4' ⊢
      obtain ⟨l2, h5, h6⟩ := Option.bind_eq_some_iff.mp h4'
      exact Option.bind_eq_some_iff.mpr ⟨l2.map (rnS as), own_setAt h5, own_ss h6⟩
    · rw [if_neg q] at h4' ⊢; exact own_ss h4'
def own_o1 (o : Option Slot) : Bool := match o with
  | some .unset => true
  | some (.val w) => Nat.beq w.category 1
  | _ => false
theorem own_o1_ok {o : Option Slot} (hh : own_o1 o = true) : ∃ x, o = some x ∧ (x = .unset ∨ ∃ w, x = .val w ∧ w.category = 1) := by
  unfold own_o1 at hh
  split at hh
  · exact ⟨_, rfl, Or.inl rfl⟩
  · exact ⟨_, rfl, Or.inr ⟨_, rfl, Nat.eq_of_beq_eq_true hh⟩⟩
  · exact nomatch hh
def own_ck (b : Bool) (q : own_R) : own_R := bif b then q else none
theorem own_ck_ok {b : Bool} {q : own_R} (hh : own_ck b q = some r) : b = true ∧ q = some r := by
  cases b
  · exact nomatch hh
  · exact ⟨rfl, hh⟩
theorem own_jmp_mk {o : Int} (w : 0 ≤ (pc : Int) + o) : own_jmp pc ls st o = some (((pc : Int) + o).toNat, ls, st) := by
  unfold own_jmp
  split
  · rename_i n q; rw [q]; rfl
  · rename_i n q; rw [q] at w; exact absurd w (by omega)
def own_ps (i : Instr) (ln pc : Nat) (ls : Array Slot) (st : List Value) : own_R := match i with
  | .istore k => own_ck (own_o1 ls[k]?) (own_step (.istore k) ln pc ls st)
  | .istore_n k => own_ck (own_o1 ls[k.val]?) (own_step (.istore_n k) ln pc ls st)
  | .astore k => own_ck (own_o1 ls[k]?) (own_step (.astore k) ln pc ls st)
  | .astore_n k => own_ck (own_o1 ls[k.val]?) (own_step (.astore_n k) ln pc ls st)
  | i => own_step i ln pc ls st
theorem own_eqv {ln : Nat} (i : Instr) (h : own_ps i ln pc ls st = some r) : own_step i ln pc (ls.map (rnS as)) (st.map (rnV as)) = some (r.1, r.2.1.map (rnS as), r.2.2.map (rnV as)) := by
  cases i
  case iload k =>
    obtain ⟨rfl, h⟩ := own_g_ok h
    obtain ⟨v, hl, rfl⟩ := own_ldi_ok h
    show own_ldi pc (ls.map (rnS as)) (st.map (rnV as)) k 2 = _
    unfold own_ldi; rw [own_gm hl]; rfl
  case iload_n k =>
    obtain ⟨rfl, h⟩ := own_g_ok h
    obtain ⟨v, hl, rfl⟩ := own_ldi_ok h
    show own_ldi pc (ls.map (rnS as)) (st.map (rnV as)) k.val 1 = _
    unfold own_ldi; rw [own_gm hl]; rfl
  case lload k =>
    obtain ⟨rfl, h⟩ := own_g_ok h
    obtain ⟨v, hl, rfl⟩ := own_ldl_ok h
    show own_ldl pc (ls.map (rnS as)) (st.map (rnV as)) k 2 = _
    unfold own_ldl; rw [own_gm hl]; rfl
  case lload_n k =>
    obtain ⟨rfl, h⟩ := own_g_ok h
    obtain ⟨v, hl, rfl⟩ := own_ldl_ok h
    show own_ldl pc (ls.map (rnS as)) (st.map (rnV as)) k.val 1 = _
    unfold own_ldl; rw [own_gm hl]; rfl
  case aload k =>
    obtain ⟨rfl, h⟩ := own_g_ok h
    obtain ⟨v, hl, hv, rfl⟩ := own_lda_ok h
    show own_lda pc (ls.map (rnS as)) (st.map (rnV as)) k 2 = _
    cases v <;> first | (cases hv; done) | (unfold own_lda; rw [own_gm hl]; rfl)
  case aload_n k =>
    obtain ⟨rfl, h⟩ := own_g_ok h
    obtain ⟨v, hl, hv, rfl⟩ := own_lda_ok h
    show own_lda pc (ls.map (rnS as)) (st.map (rnV as)) k.val 1 = _
    cases v <;> first | (cases hv; done) | (unfold own_lda; rw [own_gm hl]; rfl)
  case istore k =>
    obtain ⟨b, h⟩ := own_ck_ok h
    obtain ⟨x, hx, hy⟩ := own_o1_ok b
    obtain ⟨rfl, h⟩ := own_g_ok h
    obtain ⟨v, u, l', rfl, hl, rfl⟩ := own_sti_ok h
    have e := own_store1 (as := as) hx hy rfl hl
    show (match storeLocals (ls.map (rnS as)) k (.int v) with | some l' => some (pc + 2, l', u.map (rnV as)) | none => none) = _
    have e' : storeLocals (ls.map (rnS as)) k (.int v) = some (l'.map (rnS as)) := e
    rw [e']
  case istore_n k =>
    obtain ⟨b, h⟩ := own_ck_ok h
    obtain ⟨x, hx, hy⟩ := own_o1_ok b
    obtain ⟨rfl, h⟩ := own_g_ok h
    obtain ⟨v, u, l', rfl, hl, rfl⟩ := own_sti_ok h
    have e := own_store1 (as := as) hx hy rfl hl
    show (match storeLocals (ls.map (rnS as)) k.val (.int v) with | some l' => some (pc + 1, l', u.map (rnV as)) | none => none) = _
    have e' : storeLocals (ls.map (rnS as)) k.val (.int v) = some (l'.map (rnS as)) := e
    rw [e']
  case astore k =>
    obtain ⟨b, h⟩ := own_ck_ok h
    obtain ⟨x, hx, hy⟩ := own_o1_ok b
    obtain ⟨rfl, h⟩ := own_g_ok h
    obtain ⟨v, u, l', rfl, hv, hl, rfl⟩ := own_sta_ok h
    rcases ref_cases hv with rfl | ⟨a, rfl⟩
    · have e : storeLocals (ls.map (rnS as)) k .null = some (l'.map (rnS as)) := own_store1 (as := as) hx hy rfl hl
      show (match storeLocals (ls.map (rnS as)) k .null with | some l' => some (pc + 2, l', u.map (rnV as)) | none => none) = _
      rw [e]
    · have e : storeLocals (ls.map (rnS as)) k (.ref (as.getD a 0)) = some (l'.map (rnS as)) := own_store1 (as := as) hx hy rfl hl
      show (match storeLocals (ls.map (rnS as)) k (.ref (as.getD a 0)) with | some l' => some (pc + 2, l', u.map (rnV as)) | none => none) = _
      rw [e]
  case astore_n k =>
    obtain ⟨b, h⟩ := own_ck_ok h
    obtain ⟨x, hx, hy⟩ := own_o1_ok b
    obtain ⟨rfl, h⟩ := own_g_ok h
    obtain ⟨v, u, l', rfl, hv, hl, rfl⟩ := own_sta_ok h
    rcases ref_cases hv with rfl | ⟨a, rfl⟩
    · have e : storeLocals (ls.map (rnS as)) k.val .null = some (l'.map (rnS as)) := own_store1 (as := as) hx hy rfl hl
      show (match storeLocals (ls.map (rnS as)) k.val .null with | some l' => some (pc + 1, l', u.map (rnV as)) | none => none) = _
      rw [e]
    · have e : storeLocals (ls.map (rnS as)) k.val (.ref (as.getD a 0)) = some (l'.map (rnS as)) := own_store1 (as := as) hx hy rfl hl
      show (match storeLocals (ls.map (rnS as)) k.val (.ref (as.getD a 0)) with | some l' => some (pc + 1, l', u.map (rnV as)) | none => none) = _
      rw [e]
  case lstore k =>
    obtain ⟨rfl, h⟩ := own_g_ok h
    obtain ⟨v, u, l', rfl, hl, rfl⟩ := own_stl_ok h
    have e' : storeLocals (ls.map (rnS as)) k (.long v) = some (l'.map (rnS as)) := own_sl hl
    show (match storeLocals (ls.map (rnS as)) k (.long v) with | some l' => some (pc + 2, l', u.map (rnV as)) | none => none) = _
    rw [e']
  case lstore_n k =>
    obtain ⟨rfl, h⟩ := own_g_ok h
    obtain ⟨v, u, l', rfl, hl, rfl⟩ := own_stl_ok h
    have e' : storeLocals (ls.map (rnS as)) k.val (.long v) = some (l'.map (rnS as)) := own_sl hl
    show (match storeLocals (ls.map (rnS as)) k.val (.long v) with | some l' => some (pc + 1, l', u.map (rnV as)) | none => none) = _
    rw [e']
  case iconst i =>
    obtain ⟨rfl, h⟩ := own_g_ok h
    obtain rfl := Option.some.inj h
    rfl
  case bipush i =>
    obtain ⟨rfl, h⟩ := own_g_ok h
    obtain rfl := Option.some.inj h
    rfl
  case sipush i =>
    obtain ⟨rfl, h⟩ := own_g_ok h
    obtain rfl := Option.some.inj h
    rfl
  case lconst i =>
    obtain ⟨rfl, h⟩ := own_g_ok h
    obtain rfl := Option.some.inj h
    rfl
  case aconst_null =>
    obtain ⟨rfl, h⟩ := own_g_ok h
    obtain rfl := Option.some.inj h
    rfl
  case iadd =>
    obtain ⟨rfl, h⟩ := own_g_ok h
    obtain ⟨x, y, u, rfl, rfl⟩ := own_bii_ok h
    rfl
  case isub =>
    obtain ⟨rfl, h⟩ := own_g_ok h
    obtain ⟨x, y, u, rfl, rfl⟩ := own_bii_ok h
    rfl
  case imul =>
    obtain ⟨rfl, h⟩ := own_g_ok h
    obtain ⟨x, y, u, rfl, rfl⟩ := own_bii_ok h
    rfl
  case iand =>
    obtain ⟨rfl, h⟩ := own_g_ok h
    obtain ⟨x, y, u, rfl, rfl⟩ := own_bii_ok h
    rfl
  case ior =>
    obtain ⟨rfl, h⟩ := own_g_ok h
    obtain ⟨x, y, u, rfl, rfl⟩ := own_bii_ok h
    rfl
  case ixor =>
    obtain ⟨rfl, h⟩ := own_g_ok h
    obtain ⟨x, y, u, rfl, rfl⟩ := own_bii_ok h
    rfl
  case ishl =>
    obtain ⟨rfl, h⟩ := own_g_ok h
    obtain ⟨x, y, u, rfl, rfl⟩ := own_bii_ok h
    rfl
  case ishr =>
    obtain ⟨rfl, h⟩ := own_g_ok h
    obtain ⟨x, y, u, rfl, rfl⟩ := own_bii_ok h
    rfl
  case iushr =>
    obtain ⟨rfl, h⟩ := own_g_ok h
    obtain ⟨x, y, u, rfl, rfl⟩ := own_bii_ok h
    rfl
  case ladd =>
    obtain ⟨rfl, h⟩ := own_g_ok h
    obtain ⟨x, y, u, rfl, rfl⟩ := own_bll_ok h
    rfl
  case lsub =>
    obtain ⟨rfl, h⟩ := own_g_ok h
    obtain ⟨x, y, u, rfl, rfl⟩ := own_bll_ok h
    rfl
  case lmul =>
    obtain ⟨rfl, h⟩ := own_g_ok h
    obtain ⟨x, y, u, rfl, rfl⟩ := own_bll_ok h
    rfl
  case land =>
    obtain ⟨rfl, h⟩ := own_g_ok h
    obtain ⟨x, y, u, rfl, rfl⟩ := own_bll_ok h
    rfl
  case lor =>
    obtain ⟨rfl, h⟩ := own_g_ok h
    obtain ⟨x, y, u, rfl, rfl⟩ := own_bll_ok h
    rfl
  case lxor =>
    obtain ⟨rfl, h⟩ := own_g_ok h
    obtain ⟨x, y, u, rfl, rfl⟩ := own_bll_ok h
    rfl
  case lshl =>
    obtain ⟨rfl, h⟩ := own_g_ok h
    obtain ⟨x, y, u, rfl, rfl⟩ := own_bli_ok h
    rfl
  case lshr =>
    obtain ⟨rfl, h⟩ := own_g_ok h
    obtain ⟨x, y, u, rfl, rfl⟩ := own_bli_ok h
    rfl
  case lushr =>
    obtain ⟨rfl, h⟩ := own_g_ok h
    obtain ⟨x, y, u, rfl, rfl⟩ := own_bli_ok h
    rfl
  case lcmp =>
    obtain ⟨rfl, h⟩ := own_g_ok h
    obtain ⟨x, y, u, rfl, rfl⟩ := own_bci_ok h
    rfl
  case ineg =>
    obtain ⟨rfl, h⟩ := own_g_ok h
    obtain ⟨x, u, rfl, rfl⟩ := own_uii_ok h
    rfl
  case lneg =>
    obtain ⟨rfl, h⟩ := own_g_ok h
    obtain ⟨x, u, rfl, rfl⟩ := own_ull_ok h
    rfl
  case i2l =>
    obtain ⟨rfl, h⟩ := own_g_ok h
    obtain ⟨x, u, rfl, rfl⟩ := own_uil_ok h
    rfl
  case l2i =>
    obtain ⟨rfl, h⟩ := own_g_ok h
    obtain ⟨x, u, rfl, rfl⟩ := own_uli_ok h
    rfl
  case i2b =>
    obtain ⟨rfl, h⟩ := own_g_ok h
    obtain ⟨x, u, rfl, rfl⟩ := own_uii_ok h
    rfl
  case i2s =>
    obtain ⟨rfl, h⟩ := own_g_ok h
    obtain ⟨x, u, rfl, rfl⟩ := own_uii_ok h
    rfl
  case i2c =>
    obtain ⟨rfl, h⟩ := own_g_ok h
    obtain ⟨x, u, rfl, rfl⟩ := own_uii_ok h
    rfl
  case iinc k z =>
    obtain ⟨rfl, h⟩ := own_g_ok h
    obtain ⟨x, l', hl, hl', rfl⟩ := own_inc_ok h
    have e := own_store1 (as := as) hl (Or.inr ⟨_, rfl, rfl⟩) rfl hl'
    have e' : storeLocals (ls.map (rnS as)) k (.int (x + Int32.ofInt z)) = some (l'.map (rnS as)) := e
    show own_inc pc (ls.map (rnS as)) (st.map (rnV as)) k z = _
    unfold own_inc; rw [own_gm hl]
    show (match storeLocals (ls.map (rnS as)) k (.int (x + Int32.ofInt z)) with | some l' => some (pc + 3, l', (st.map (rnV as))) | none => none) = _
    rw [e']
  case dup =>
    obtain ⟨rfl, h⟩ := own_g_ok h
    obtain ⟨x, u, rfl, w, rfl⟩ := own_dp1_ok h
    show own_g (rnV as x).category 1 _ = _
    rw [own_cat, w]; rfl
  case pop =>
    obtain ⟨rfl, h⟩ := own_g_ok h
    obtain ⟨x, u, rfl, w, rfl⟩ := own_pp1_ok h
    show own_g (rnV as x).category 1 _ = _
    rw [own_cat, w]; rfl
  case dup_x1 =>
    obtain ⟨rfl, h⟩ := own_g_ok h
    obtain ⟨x, y, u, rfl, w, w', rfl⟩ := own_dx1_ok h
    show own_g (rnV as x).category 1 (own_g (rnV as y).category 1 _) = _
    rw [own_cat, own_cat, w, w']; rfl
  case dup2 =>
    obtain ⟨rfl, h⟩ := own_g_ok h
    obtain ⟨x, y, u, rfl, w, w', rfl⟩ := own_dp2_ok h
    show own_g (rnV as x).category 1 (own_g (rnV as y).category 1 _) = _
    rw [own_cat, own_cat, w, w']; rfl
  case goto o =>
    obtain ⟨rfl, h⟩ := own_g_ok h
    obtain ⟨w, rfl⟩ := own_jmp_ok h
    exact own_jmp_mk w
  case ifCond cd o =>
    obtain ⟨rfl, h⟩ := own_g_ok h
    obtain ⟨x, u, rfl, ⟨w, w', rfl⟩ | ⟨w, rfl⟩⟩ := own_ifc_ok h
    · show (match ifCond.holds cd x with | true => own_jmp pc (ls.map (rnS as)) (u.map (rnV as)) o | false => some (pc + 3, (ls.map (rnS as)), u.map (rnV as))) = _
      rw [w]; exact own_jmp_mk w'
    · show (match ifCond.holds cd x with | true => own_jmp pc (ls.map (rnS as)) (u.map (rnV as)) o | false => some (pc + 3, (ls.map (rnS as)), u.map (rnV as))) = _
      rw [w]
  case if_icmp cd o =>
    obtain ⟨rfl, h⟩ := own_g_ok h
    obtain ⟨x, y, u, rfl, ⟨w, w', rfl⟩ | ⟨w, rfl⟩⟩ := own_icm_ok h
    · show (match if_icmp.holds cd x y with | true => own_jmp pc (ls.map (rnS as)) (u.map (rnV as)) o | false => some (pc + 3, (ls.map (rnS as)), u.map (rnV as))) = _
      rw [w]; exact own_jmp_mk w'
    · show (match if_icmp.holds cd x y with | true => own_jmp pc (ls.map (rnS as)) (u.map (rnV as)) o | false => some (pc + 3, (ls.map (rnS as)), u.map (rnV as))) = _
      rw [w]
  case ifnull o =>
    obtain ⟨rfl, h⟩ := own_g_ok h
    obtain ⟨u, ⟨rfl, w', rfl⟩ | ⟨b, rfl, rfl⟩⟩ := own_ifn_ok h
    · exact own_jmp_mk w'
    · rfl
  case ifnonnull o =>
    obtain ⟨rfl, h⟩ := own_g_ok h
    obtain ⟨u, ⟨b, rfl, w', rfl⟩ | ⟨rfl, rfl⟩⟩ := own_inn_ok h
    · exact own_jmp_mk w'
    · rfl
  all_goals exact nomatch (show (none : own_R) = some _ from h)
def own_LK (Z : State) (a0 : Array Value) (own : String) : own_Fe → Prop
  | [] => True
  | q :: r => (Cond.fieldLink own q.2.1 q.2.2.1 q.2.2.2.1 q.2.2.2.2.1).before a0 Z = true ∧ own_LK Z a0 own r
def own_LC (Z : State) (a0 : Array Value) (own : String) : List (Nat × Int64) → Prop
  | [] => True
  | q :: r => (Cond.constantLong own q.1 q.2).before a0 Z = true ∧ own_LC Z a0 own r
def own_lc (i : Nat) : List (Nat × Int64) → Option Int64
  | [] => none
  | q :: r => bif Nat.beq i q.1 then some q.2 else own_lc i r
theorem own_LC_get {cl : List (Nat × Int64)} (L : own_LC Z a0 own cl) {x : Nat} {v : Int64} (g : own_lc x cl = some v) : (Cond.constantLong own x v).before a0 Z = true := by
  induction cl with
  | nil => exact nomatch g
  | cons q r ih =>
    unfold own_lc at g
    cases w : Nat.beq x q.1 with
    | true =>
      rw [w] at g
      have g' : some q.2 = some v := g
      cases g'
      have e1 := Nat.eq_of_beq_eq_true w
      subst e1
      exact L.1
    | false => rw [w] at g; exact ih L.2 g
def own_WO (n0 : Nat) (as : List Addr) : List Nat → Prop
  | [] => True
  | k :: r => n0 ≤ as.getD k 0 ∧ own_WO n0 as r
def own_Inc : List Addr → Prop
  | [] => True
  | [_] => True
  | a :: b :: r => a < b ∧ own_Inc (b :: r)
theorem own_inc_tl {a : Addr} : ∀ {r : List Addr}, own_Inc (a :: r) → own_Inc r
  | [], _ => trivial
  | _ :: _, I => I.2
theorem own_inc_hd : ∀ (r : List Addr) (a : Addr), own_Inc (a :: r) → ∀ j, j < r.length → a < r.getD j 0
  | [], _, _, _, q => nomatch q
  | _ :: _, _, I, 0, _ => I.1
  | b :: r, _, I, j + 1, q => Nat.lt_trans I.1 (own_inc_hd r b I.2 j (Nat.lt_of_succ_lt_succ q))
theorem own_inc_lt : ∀ (as : List Addr), own_Inc as → ∀ i j, i < j → j < as.length → as.getD i 0 < as.getD j 0
  | [], _, _, _, _, q => nomatch q
  | a :: r, I, 0, j + 1, _, q => own_inc_hd r a I j (Nat.lt_of_succ_lt_succ q)
  | _ :: r, I, i + 1, j + 1, w, q => own_inc_lt r (own_inc_tl I) i j (Nat.lt_of_succ_lt_succ w) (Nat.lt_of_succ_lt_succ q)
theorem own_inc_ne {as : List Addr} (I : own_Inc as) {i j : Nat} (hi : i < as.length) (hj : j < as.length) (q : i ≠ j) : as.getD i 0 ≠ as.getD j 0 := by
  rcases Nat.lt_or_gt_of_ne q with w | w
  · exact Nat.ne_of_lt (own_inc_lt as I i j w hj)
  · exact Nat.ne_of_gt (own_inc_lt as I j i w hi)
theorem own_WO_get {wl : List Nat} (w : own_WO n0 as wl) {k : Nat} (q : k ∈ wl) : n0 ≤ as.getD k 0 := by
  induction wl with
  | nil => exact nomatch q
  | cons a r ih =>
    rcases List.mem_cons.mp q with rfl | q
    · exact w.1
    · exact ih w.2 q
theorem own_FO_get {fl : own_Fe} (F : own_FO Z h as fl) (L : own_LK Z a0 own fl) {k x : Nat} {v : Value} (g : own_lf k x fl = some v) : ∃ C n d, Fld Z h (as.getD k 0) C n d (rnV as v) ∧ (Cond.fieldLink own x C n d).before a0 Z = true := by
  induction fl with
  | nil => exact nomatch g
  | cons q r ih =>
    unfold own_lf at g
    cases w : (Nat.beq k q.1 && Nat.beq x q.2.1) with
    | true =>
      rw [w] at g
      have g' : some q.2.2.2.2.2 = some v := g
      cases g'
      obtain ⟨w1, w2⟩ := (Bool.and_eq_true _ _).mp w
      have e1 := Nat.eq_of_beq_eq_true w1
      have e2 := Nat.eq_of_beq_eq_true w2
      subst e1 e2
      exact ⟨_, _, _, F.1, L.1⟩
    | false => rw [w] at g; exact ih F.2 L.2 g
theorem own_MO_get {kc : List ClassId} {me : own_Me} (M : own_MO Z h as kc me) {k : Nat} {t : FieldType × Int32 × List Value} (g : own_lk k me = some t) : Arv Z h (as.getD k 0) (kc.getD k 0) t.1 t.2.1 (t.2.2.map (rnV as)) (own_dv t.1) ∧ k ∈ me.map (·.1) := by
  induction me with
  | nil => exact nomatch g
  | cons q r ih =>
    unfold own_lk at g
    cases w : Nat.beq k q.1 with
    | true =>
      rw [w] at g
      have g' : some q.2 = some t := g
      cases g'
      have e1 := Nat.eq_of_beq_eq_true w
      subst e1
      exact ⟨M.1, List.mem_cons_self ..⟩
    | false => rw [w] at g; exact ⟨(ih M.2 g).1, List.mem_cons_of_mem _ (ih M.2 g).2⟩
theorem own_up_keys {k : Nat} {vs : List Value} {me : own_Me} : (own_up k vs me).map (·.1) = me.map (·.1) := by
  induction me with
  | nil => rfl
  | cons q r ih =>
    unfold own_up
    cases w : Nat.beq k q.1 with
    | true => rfl
    | false => show q.1 :: (own_up k vs r).map (·.1) = q.1 :: r.map (·.1); rw [ih]
theorem own_MO_oth {kc : List ClassId} {me : own_Me} (M : own_MO Z h as kc me) {a : Addr} {sl : Nat} {v : Value} (W : Wr h h' a sl v) (hne : ∀ j ∈ me.map (·.1), as.getD j 0 ≠ a) : own_MO Z h' as kc me := by
  induction me with
  | nil => trivial
  | cons q r ih => exact ⟨M.1.other W (hne q.1 (List.mem_cons_self ..)), ih M.2 fun j hj => hne j (List.mem_cons_of_mem _ hj)⟩
theorem own_FO_oth {fl : own_Fe} (F : own_FO Z h as fl) {a : Addr} {sl : Nat} {v : Value} (W : Wr h h' a sl v) (hne : ∀ j ∈ fl.map (·.1), as.getD j 0 ≠ a) : own_FO Z h' as fl := by
  induction fl with
  | nil => trivial
  | cons q r ih => exact ⟨Fld.other W F.1 (Or.inl (hne q.1 (List.mem_cons_self ..))), ih F.2 fun j hj => hne j (List.mem_cons_of_mem _ hj)⟩
theorem own_MO_up {kc : List ClassId} {me : own_Me} (M : own_MO Z h as kc me) (hnd : (me.map (·.1)).Nodup) {k sl : Nat} {t : FieldType × Int32 × List Value} {v : Value} (g : own_lk k me = some t) (hne : ∀ j ∈ me.map (·.1), j ≠ k → as.getD j 0 ≠ as.getD k 0) (W : Wr h h' (as.getD k 0) sl v) {vs : List Value} (V : Arv Z h' (as.getD k 0) (kc.getD k 0) t.1 t.2.1 (vs.map (rnV as)) (own_dv t.1)) : own_MO Z h' as kc (own_up k vs me) := by
  induction me with
  | nil => trivial
  | cons q r ih =>
    obtain ⟨hn1, hn2⟩ := List.nodup_cons.mp hnd
    unfold own_up
    unfold own_lk at g
    cases w : Nat.beq k q.1 with
    | true =>
      rw [w] at g
      have g' : some q.2 = some t := g
      cases g'
      have e1 := Nat.eq_of_beq_eq_true w
      subst e1
      exact ⟨V, own_MO_oth M.2 W fun j hj => hne j (List.mem_cons_of_mem _ hj) (fun e => hn1 (by show q.1 ∈ r.map (·.1); rw [← e]; exact hj))⟩
    | false =>
      rw [w] at g
      have n1 : q.1 ≠ k := fun e => by rw [e, Nat.beq_refl] at w; cases w
      exact ⟨M.1.other W (hne q.1 (List.mem_cons_self ..) n1), ih M.2 hn2 g fun j hj => hne j (List.mem_cons_of_mem _ hj)⟩
theorem own_rdv (ty : FieldType) : rnV as (own_dv ty) = own_dv ty := by cases ty <;> rfl
theorem own_gD {vs : List Value} {i : Nat} {ty : FieldType} : (vs.map (rnV as)).getD i (own_dv ty) = rnV as (vs.getD i (own_dv ty)) := by
  rw [List.getD_eq_getElem?_getD, List.getD_eq_getElem?_getD, List.getElem?_map]
  cases vs[i]? with
  | none => exact (own_rdv ty).symm
  | some x => rfl
def own_in (j z : Int32) (vs : List Value) : Bool := !decide (j < 0) && decide (j < z) && Nat.blt j.toNatClampNeg vs.length
theorem own_in_ok {j z : Int32} {vs : List Value} (q : own_in j z vs = true) : (¬ j < 0 ∧ j < z) ∧ j.toNatClampNeg < vs.length := by
  unfold own_in at q
  obtain ⟨q1, q2⟩ := (Bool.and_eq_true _ _).mp q
  obtain ⟨q3, q4⟩ := (Bool.and_eq_true _ _).mp q1
  exact ⟨⟨(fun w => by rw [decide_eq_true w] at q3; cases q3), of_decide_eq_true q4⟩, Nat.le_of_ble_eq_true q2⟩
abbrev own_MR := Option (Nat × Array Slot × List Value × own_Me)
def own_mg (b : Bool) (q : own_MR) : own_MR := bif b then q else none
theorem own_mg_ok {b : Bool} {q : own_MR} {t : Nat × Array Slot × List Value × own_Me} (hh : own_mg b q = some t) : b = true ∧ q = some t := by
  cases b
  · exact nomatch hh
  · exact ⟨rfl, hh⟩
def own_mq (q : own_R) (me : own_Me) : own_MR := match q with
  | some (a, b, c) => some (a, b, c, me)
  | none => none
def own_ld (ty : FieldType) (me : own_Me) (st : List Value) : Option (Nat × Int32 × Int32 × List Value × List Value) := match st with
  | .int j :: .ref k :: u => (match own_lk k me with
    | some (ty', z, vs) => bif decide (ty' = ty) && own_in j z vs then some (k, j, z, vs, u) else none
    | none => none)
  | _ => none
theorem own_ld_ok {ty : FieldType} {me : own_Me} {t : Nat × Int32 × Int32 × List Value × List Value} (hh : own_ld ty me st = some t) : st = .int t.2.1 :: .ref t.1 :: t.2.2.2.2 ∧ own_lk t.1 me = some (ty, t.2.2.1, t.2.2.2.1) ∧ own_in t.2.1 t.2.2.1 t.2.2.2.1 = true := by
  unfold own_ld at hh
  split at hh
  · split at hh
    · rename_i ty' z vs g
      cases w : (decide (ty' = ty) && own_in _ z vs) with
      | true =>
        rw [w] at hh
        obtain ⟨w1, w2⟩ := (Bool.and_eq_true _ _).mp w
        have e := of_decide_eq_true w1
        subst e
        have hh' := Option.some.inj (show some _ = some t from hh)
        subst hh'
        exact ⟨rfl, g, w2⟩
      | false => rw [w] at hh; exact nomatch hh
    · exact nomatch hh
  · exact nomatch hh
def own_gf (fl : own_Fe) (x : Nat) (st : List Value) : Option (Nat × Value × List Value) := match st with
  | .ref k :: u => (match own_lf k x fl with
    | some v => some (k, v, u)
    | none => none)
  | _ => none
theorem own_gf_ok {fl : own_Fe} {x : Nat} {t : Nat × Value × List Value} (hh : own_gf fl x st = some t) : st = .ref t.1 :: t.2.2 ∧ own_lf t.1 x fl = some t.2.1 := by
  unfold own_gf at hh
  split at hh
  · split at hh
    · have e := Option.some.inj hh
      subst e
      exact ⟨rfl, by assumption⟩
    · exact nomatch hh
  · exact nomatch hh
def own_al (me : own_Me) (st : List Value) : Option (Nat × (FieldType × Int32 × List Value) × List Value) := match st with
  | .ref k :: u => (match own_lk k me with
    | some v => some (k, v, u)
    | none => none)
  | _ => none
theorem own_al_ok {me : own_Me} {t : Nat × (FieldType × Int32 × List Value) × List Value} (hh : own_al me st = some t) : st = .ref t.1 :: t.2.2 ∧ own_lk t.1 me = some t.2.1 := by
  unfold own_al at hh
  split at hh
  · split at hh
    · have e := Option.some.inj hh
      subst e
      exact ⟨rfl, by assumption⟩
    · exact nomatch hh
  · exact nomatch hh
def own_la (me : own_Me) (st : List Value) : Option (Nat × Int32 × (FieldType × Int32 × List Value) × List Value) := match st with
  | .int j :: .ref k :: u => (match own_lk k me with
    | some v => some (k, j, v, u)
    | none => none)
  | _ => none
theorem own_la_ok {me : own_Me} {t : Nat × Int32 × (FieldType × Int32 × List Value) × List Value} (hh : own_la me st = some t) : st = .int t.2.1 :: .ref t.1 :: t.2.2.2 ∧ own_lk t.1 me = some t.2.2.1 := by
  unfold own_la at hh
  split at hh
  · split at hh
    · have e := Option.some.inj hh
      subst e
      exact ⟨rfl, by assumption⟩
    · exact nomatch hh
  · exact nomatch hh
def own_ist (st : List Value) : Option (Int32 × List Value) := match st with
  | .int x :: u => some (x, u)
  | _ => none
theorem own_ist_ok {t : Int32 × List Value} (hh : own_ist st = some t) : st = .int t.1 :: t.2 := by
  unfold own_ist at hh
  split at hh
  · have e := Option.some.inj hh
    subst e
    rfl
  · exact nomatch hh
def own_me1 (fl : own_Fe) (x ln pc : Nat) (ls : Array Slot) (st : List Value) (me : own_Me) : own_MR := match own_gf fl x st with
  | some t => own_mg (Nat.beq ln 3) (some (pc + 3, ls, t.2.1 :: t.2.2, me))
  | none => none
theorem own_me1_ok {fl : own_Fe} {x ln : Nat} {me : own_Me} {t : Nat × Array Slot × List Value × own_Me} (hh : own_me1 fl x ln pc ls st me = some t) : ∃ k v u, ln = 3 ∧ st = .ref k :: u ∧ own_lf k x fl = some v ∧ t = (pc + 3, ls, v :: u, me) := by
  unfold own_me1 at hh
  split at hh
  · rename_i q g
    obtain ⟨b, hh⟩ := own_mg_ok hh
    exact ⟨q.1, q.2.1, q.2.2, Nat.eq_of_beq_eq_true b, (own_gf_ok g).1, (own_gf_ok g).2, (Option.some.inj hh).symm⟩
  · exact nomatch hh
def own_me2 (ln pc : Nat) (ls : Array Slot) (st : List Value) (me : own_Me) : own_MR := match own_la me st with
  | some t => own_mg (Nat.beq ln 1 && (t.2.2.1.1.isReference && own_in t.2.1 t.2.2.1.2.1 t.2.2.1.2.2)) (some (pc + 1, ls, t.2.2.1.2.2.getD t.2.1.toNatClampNeg (own_dv t.2.2.1.1) :: t.2.2.2, me))
  | none => none
theorem own_me2_ok {ln : Nat} {me : own_Me} {t : Nat × Array Slot × List Value × own_Me} (hh : own_me2 ln pc ls st me = some t) : ∃ k j ty z vs u, ln = 1 ∧ st = .int j :: .ref k :: u ∧ own_lk k me = some (ty, z, vs) ∧ ty.isReference = true ∧ own_in j z vs = true ∧ t = (pc + 1, ls, vs.getD j.toNatClampNeg (own_dv ty) :: u, me) := by
  unfold own_me2 at hh
  split at hh
  · rename_i q g
    obtain ⟨b, hh⟩ := own_mg_ok hh
    obtain ⟨b1, b2⟩ := (Bool.and_eq_true _ _).mp b
    obtain ⟨b3, b4⟩ := (Bool.and_eq_true _ _).mp b2
    exact ⟨q.1, q.2.1, q.2.2.1.1, q.2.2.1.2.1, q.2.2.1.2.2, q.2.2.2, Nat.eq_of_beq_eq_true b1, (own_la_ok g).1, (own_la_ok g).2, b3, b4, (Option.some.inj hh).symm⟩
  · exact nomatch hh
def own_me3 (ty : FieldType) (ln pc : Nat) (ls : Array Slot) (st : List Value) (me : own_Me) : own_MR := match own_ld ty me st with
  | some t => (match t.2.2.2.1.getD t.2.1.toNatClampNeg (own_dv ty) with
    | .int x => own_mg (Nat.beq ln 1) (some (pc + 1, ls, .int x :: t.2.2.2.2, me))
    | _ => none)
  | none => none
theorem own_me3_ok {ty : FieldType} {ln : Nat} {me : own_Me} {t : Nat × Array Slot × List Value × own_Me} (hh : own_me3 ty ln pc ls st me = some t) : ∃ k j z vs u x, ln = 1 ∧ st = .int j :: .ref k :: u ∧ own_lk k me = some (ty, z, vs) ∧ own_in j z vs = true ∧ vs.getD j.toNatClampNeg (own_dv ty) = .int x ∧ t = (pc + 1, ls, .int x :: u, me) := by
  unfold own_me3 at hh
  split at hh
  · rename_i q g
    obtain ⟨g1, g2, g3⟩ := own_ld_ok g
    split at hh
    · rename_i x gx
      obtain ⟨b, hh⟩ := own_mg_ok hh
      exact ⟨q.1, q.2.1, q.2.2.1, q.2.2.2.1, q.2.2.2.2, x, Nat.eq_of_beq_eq_true b, g1, g2, g3, gx, (Option.some.inj hh).symm⟩
    · exact nomatch hh
  · exact nomatch hh
def own_me4 (ln pc : Nat) (ls : Array Slot) (st : List Value) (me : own_Me) : own_MR := match own_al me st with
  | some t => own_mg (Nat.beq ln 1) (some (pc + 1, ls, .int t.2.1.2.1 :: t.2.2, me))
  | none => none
theorem own_me4_ok {ln : Nat} {me : own_Me} {t : Nat × Array Slot × List Value × own_Me} (hh : own_me4 ln pc ls st me = some t) : ∃ k ty z vs u, ln = 1 ∧ st = .ref k :: u ∧ own_lk k me = some (ty, z, vs) ∧ t = (pc + 1, ls, .int z :: u, me) := by
  unfold own_me4 at hh
  split at hh
  · rename_i q g
    obtain ⟨b, hh⟩ := own_mg_ok hh
    exact ⟨q.1, q.2.1.1, q.2.1.2.1, q.2.1.2.2, q.2.2, Nat.eq_of_beq_eq_true b, (own_al_ok g).1, (own_al_ok g).2, (Option.some.inj hh).symm⟩
  · exact nomatch hh
def own_me5 (ty : FieldType) (nr : Int32 → Int32) (wl : List Nat) (ln pc : Nat) (ls : Array Slot) (st : List Value) (me : own_Me) : own_MR := match own_ist st with
  | some a => (match own_ld ty me a.2 with
    | some t => own_mg (Nat.beq ln 1 && decide (t.1 ∈ wl)) (some (pc + 1, ls, t.2.2.2.2, own_up t.1 (t.2.2.2.1.set t.2.1.toNatClampNeg (.int (nr a.1))) me))
    | none => none)
  | none => none
theorem own_me5_ok {ty : FieldType} {nr : Int32 → Int32} {wl : List Nat} {ln : Nat} {me : own_Me} {t : Nat × Array Slot × List Value × own_Me} (hh : own_me5 ty nr wl ln pc ls st me = some t) : ∃ k j z vs u x, ln = 1 ∧ st = .int x :: .int j :: .ref k :: u ∧ own_lk k me = some (ty, z, vs) ∧ own_in j z vs = true ∧ k ∈ wl ∧ t = (pc + 1, ls, u, own_up k (vs.set j.toNatClampNeg (.int (nr x))) me) := by
  unfold own_me5 at hh
  split at hh
  · rename_i a ga
    split at hh
    · rename_i q g
      obtain ⟨g1, g2, g3⟩ := own_ld_ok g
      obtain ⟨b, hh⟩ := own_mg_ok hh
      obtain ⟨b1, b2⟩ := (Bool.and_eq_true _ _).mp b
      exact ⟨q.1, q.2.1, q.2.2.1, q.2.2.2.1, q.2.2.2.2, a.1, Nat.eq_of_beq_eq_true b1, (own_ist_ok ga).trans (by rw [g1]), g2, g3, of_decide_eq_true b2, (Option.some.inj hh).symm⟩
    · exact nomatch hh
  · exact nomatch hh
def own_me6 (cl : List (Nat × Int64)) (x ln pc : Nat) (ls : Array Slot) (st : List Value) (me : own_Me) : own_MR := match own_lc x cl with
  | some v => own_mg (Nat.beq ln 3) (some (pc + 3, ls, .long v :: st, me))
  | none => none
theorem own_me6_ok {cl : List (Nat × Int64)} {x ln : Nat} {me : own_Me} {t : Nat × Array Slot × List Value × own_Me} (hh : own_me6 cl x ln pc ls st me = some t) : ∃ v, ln = 3 ∧ own_lc x cl = some v ∧ t = (pc + 3, ls, .long v :: st, me) := by
  unfold own_me6 at hh
  split at hh
  · rename_i v g
    obtain ⟨b, hh⟩ := own_mg_ok hh
    exact ⟨v, Nat.eq_of_beq_eq_true b, g, (Option.some.inj hh).symm⟩
  · exact nomatch hh
def own_ms (fl : own_Fe) (cl : List (Nat × Int64)) (wl : List Nat) (i : Instr) (ln pc : Nat) (ls : Array Slot) (st : List Value) (me : own_Me) : own_MR := match i with
  | .getfield x => own_me1 fl x ln pc ls st me
  | .ldc2_w x => own_me6 cl x ln pc ls st me
  | .aaload => own_me2 ln pc ls st me
  | .iaload => own_me3 .int ln pc ls st me
  | .baload => own_me3 .boolean ln pc ls st me
  | .arraylength => own_me4 ln pc ls st me
  | .iastore => own_me5 .int (fun x => x) wl ln pc ls st me
  | .bastore => own_me5 .boolean (fun x => nar .boolean x) wl ln pc ls st me
  | i => own_mq (own_ps i ln pc ls st) me
abbrev own_WL (as : List Addr) (wl : List Nat) : List Addr := wl.map fun k => as.getD k 0
theorem own_mstep {kc : List ClassId} {me me' : own_Me} {fl : own_Fe} {cl : List (Nat × Int64)} {wl ks : List Nat} {ln pc' : Nat} {ls' : Array Slot} {st' : List Value} (X : Stand p l e R s m args below meth c T locs cells slots) (hx : p.tables.exec = Jvm.exec) (hZ : Z.Warmed39 s.vm) (hown : s.vm.findClass own = some m.cls) (N : Fr n0 locs) (eT : T.heap = h) (M : own_MO Z h as kc me) (F : own_FO Z h as fl) (L : own_LK Z a0 own fl) (LC : own_LC Z a0 own cl)
    (I : wl = [] ∨ own_Inc as) (hks : me.map (·.1) = ks) (hnd : ks.Nodup) (hkl : ∀ j ∈ ks, j < as.length) (hfl : ∀ j ∈ fl.map (·.1), j < as.length) (hfk : ∀ j ∈ fl.map (·.1), j ∉ ks) (hwo : own_WO n0 as wl)
    (i : Instr) (hd : decode c.code pc = .ok (i, ln)) (hs : own_ms fl cl wl i ln pc ls st me = some (pc', ls', st', me'))
    (K : ∀ T' h' locs', Stand p l e R s m args below meth c T' locs' cells slots → Fr n0 locs' → T'.heap = h' → Keep h h' (own_WL as wl) → (wl = [] → h' = h) → own_MO Z h' as kc me' → own_FO Z h' as fl → me'.map (·.1) = ks → own_Ends p e below s Q cc nn T' (rnF m as pc' ls' st')) :
    own_Ends p e below s Q cc nn T (rnF m as pc ls st) := by
  have K0 : ∀ T', Stand p l e R s m args below meth c T' locs cells slots → T'.heap = h → me' = me → own_Ends p e below s Q cc nn T' (rnF m as pc' ls' st') := fun T' X' e' q => by
    subst q; exact K T' h locs X' N e' (Keep.refl _ _) (fun _ => rfl) M F hks
  have PU : ∀ i, decode c.code pc = .ok (i, ln) → own_mq (own_ps i ln pc ls st) me = some (pc', ls', st', me') → own_Ends p e below s Q cc nn T (rnF m as pc ls st) := fun i hd hs' => by
    unfold own_mq at hs'
    split at hs'
    · rename_i g
      cases hs'
      exact own_go (T' := T) (f' := rnF m as pc' ls' st') (fun _ q => own_step_ok X hx _ hd (own_eqv _ g) q) (K0 T X eT rfl)
    · exact nomatch hs'
  cases i
  case getfield x =>
    obtain ⟨k, v, u, rfl, rfl, g, q⟩ := own_me1_ok (show own_me1 fl x ln pc ls st me = some _ from hs)
    cases q
    obtain ⟨C, n, d, G, w⟩ := own_FO_get F L g
    obtain ⟨T', X', e', stp⟩ := Jvm.RoadKit.getF X hx hZ hown (host := "") (Or.inl w) Via.refl eT G (g := rnF m as pc ls (.ref k :: u)) rfl rfl hd
    exact own_go (T' := T') (f' := rnF m as (pc + 3) ls (v :: u)) (fun _ k => stp _ k) (K0 T' X' e' rfl)
  case ldc2_w x =>
    obtain ⟨v, rfl, g, q⟩ := own_me6_ok (show own_me6 cl x ln pc ls st me = some _ from hs)
    cases q
    exact own_go (T' := T) (f' := rnF m as (pc + 3) ls (.long v :: st)) (fun t q => X.ldc2Long hx hown (mvT hZ (own_LC_get LC g)) (g := rnF m as pc ls st) rfl hd t q) (K0 T X eT rfl)
  case aaload =>
    obtain ⟨k, j, ty, z, vs, u, rfl, rfl, g, b3, b4, q⟩ := own_me2_ok (show own_me2 ln pc ls st me = some _ from hs)
    cases q
    exact own_go (T' := T) (f' := rnF m as (pc + 1) ls (vs.getD j.toNatClampNeg (own_dv ty) :: u)) (fun _ q => own_ldR X hx hZ eT (own_MO_get M g).1 (j := j) (own_in_ok b4).1 own_gD b3 (g := rnF m as pc ls (.int j :: .ref k :: u)) rfl rfl hd q) (K0 T X eT rfl)
  case iaload =>
    obtain ⟨k, j, z, vs, u, x, rfl, rfl, g, b4, gx, q⟩ := own_me3_ok (show own_me3 .int ln pc ls st me = some _ from hs)
    cases q
    exact own_go (T' := T) (f' := rnF m as (pc + 1) ls (.int x :: u)) (fun _ q => own_ldI X hx hZ eT (own_MO_get M g).1 (j := j) (x := x) (own_in_ok b4).1 (by rw [own_gD, gx]; rfl) (g := rnF m as pc ls (.int j :: .ref k :: u)) rfl rfl hd q) (K0 T X eT rfl)
  case baload =>
    obtain ⟨k, j, z, vs, u, x, rfl, rfl, g, b4, gx, q⟩ := own_me3_ok (show own_me3 .boolean ln pc ls st me = some _ from hs)
    cases q
    exact own_go (T' := T) (f' := rnF m as (pc + 1) ls (.int x :: u)) (fun _ q => own_ldZ X hx hZ eT (own_MO_get M g).1 (j := j) (x := x) (own_in_ok b4).1 (by rw [own_gD, gx]; rfl) (g := rnF m as pc ls (.int j :: .ref k :: u)) rfl rfl hd q) (K0 T X eT rfl)
  case arraylength =>
    obtain ⟨k, ty, z, vs, u, rfl, rfl, g, q⟩ := own_me4_ok (show own_me4 ln pc ls st me = some _ from hs)
    cases q
    exact own_go (T' := T) (f' := rnF m as (pc + 1) ls (.int z :: u)) (fun _ q => own_alen X hx hZ eT (own_MO_get M g).1 (g := rnF m as pc ls (.ref k :: u)) rfl rfl hd q) (K0 T X eT rfl)
  case iastore =>
    obtain ⟨k, j, z, vs, u, x, rfl, rfl, g, g3, hw, q⟩ := own_me5_ok (show own_me5 .int (fun x => x) wl ln pc ls st me = some _ from hs)
    have q' := q.symm
    cases q'
    have I : own_Inc as := I.resolve_left (fun q => by rw [q] at hw; exact nomatch hw)
    obtain ⟨V, hk⟩ := own_MO_get M g
    obtain ⟨T', h', X', e', W, V', stp⟩ := own_stI X hx hZ eT V (j := j) (x := x) (own_in_ok g3).1 j.toNatClampNeg rfl (by rw [List.length_map]; exact (own_in_ok g3).2) (g := rnF m as pc ls (.int x :: .int j :: .ref k :: st')) rfl rfl hd
    have hkk : k ∈ ks := hks ▸ hk
    have V2 : Arv Z h' (as.getD k 0) (kc.getD k 0) .int z ((vs.set j.toNatClampNeg (.int x)).map (rnV as)) (own_dv .int) := by rw [List.map_set]; exact V'
    have hne : ∀ q ∈ me.map (·.1), q ≠ k → as.getD q 0 ≠ as.getD k 0 := fun q hq n => own_inc_ne I (hkl q (hks ▸ hq)) (hkl k hkk) n
    exact own_go (T' := T') (f' := rnF m as (pc + 1) ls st') (fun _ q => stp _ q) (K T' h' _ X' (Fr.snoc X' N (own_WO_get hwo hw)) e' ((Keep.refl h (own_WL as wl)).wr W (Or.inl (List.mem_map.mpr ⟨k, hw, rfl⟩))) (fun q => by rw [q] at hw; exact nomatch hw) (own_MO_up M (hks ▸ hnd) g hne W V2) (own_FO_oth F W fun q hq => own_inc_ne I (hfl q hq) (hkl k hkk) (fun w => hfk q hq (w ▸ hkk))) (own_up_keys.trans hks))
  case bastore =>
    obtain ⟨k, j, z, vs, u, x, rfl, rfl, g, g3, hw, q⟩ := own_me5_ok (show own_me5 .boolean (fun x => nar .boolean x) wl ln pc ls st me = some _ from hs)
    have q' := q.symm
    cases q'
    have I : own_Inc as := I.resolve_left (fun q => by rw [q] at hw; exact nomatch hw)
    obtain ⟨V, hk⟩ := own_MO_get M g
    obtain ⟨T', h', X', e', W, V', stp⟩ := own_stZ X hx hZ eT V (j := j) (x := x) (own_in_ok g3).1 j.toNatClampNeg rfl (by rw [List.length_map]; exact (own_in_ok g3).2) (g := rnF m as pc ls (.int x :: .int j :: .ref k :: st')) rfl rfl hd
    have hkk : k ∈ ks := hks ▸ hk
    have V2 : Arv Z h' (as.getD k 0) (kc.getD k 0) .boolean z ((vs.set j.toNatClampNeg (.int (nar .boolean x))).map (rnV as)) (own_dv .boolean) := by rw [List.map_set]; exact V'
    have hne : ∀ q ∈ me.map (·.1), q ≠ k → as.getD q 0 ≠ as.getD k 0 := fun q hq n => own_inc_ne I (hkl q (hks ▸ hq)) (hkl k hkk) n
    exact own_go (T' := T') (f' := rnF m as (pc + 1) ls st') (fun _ q => stp _ q) (K T' h' _ X' (Fr.snoc X' N (own_WO_get hwo hw)) e' ((Keep.refl h (own_WL as wl)).wr W (Or.inl (List.mem_map.mpr ⟨k, hw, rfl⟩))) (fun q => by rw [q] at hw; exact nomatch hw) (own_MO_up M (hks ▸ hnd) g hne W V2) (own_FO_oth F W fun q hq => own_inc_ne I (hfl q hq) (hkl k hkk) (fun w => hfk q hq (w ▸ hkk))) (own_up_keys.trans hks))
  all_goals exact PU _ hd hs
def own_mx (M : Nat) (f : Nat → Option (Instr × Nat)) (fl : own_Fe) (cl : List (Nat × Int64)) (wl : List Nat) : Nat → Nat → Array Slot → List Value → own_Me → own_MR
  | 0, pc, ls, st, me => some (pc, ls, st, me)
  | n + 1, pc, ls, st, me => match own_fetch M f pc with
    | some (i, ln) => (match own_ms fl cl wl i ln pc ls st me with
      | some (pc', ls', st', me') => own_mx M f fl cl wl n pc' ls' st' me'
      | none => none)
    | none => none
theorem own_mrun {B : Nat} {f : Nat → Option (Instr × Nat)} {kc : List ClassId} {fl : own_Fe} {cl : List (Nat × Int64)} {wl ks : List Nat} {pc' : Nat} {ls' : Array Slot} {st' : List Value} {me' : own_Me} (tt : own_T p c B f) (hZ : Z.Warmed39 s.vm) (hown : s.vm.findClass own = some m.cls) (L : own_LK Z a0 own fl) (LC : own_LC Z a0 own cl) (I : wl = [] ∨ own_Inc as) (hnd : ks.Nodup) (hkl : ∀ j ∈ ks, j < as.length) (hfl : ∀ j ∈ fl.map (·.1), j < as.length) (hfk : ∀ j ∈ fl.map (·.1), j ∉ ks) (hwo : own_WO n0 as wl) (n : Nat) :
    ∀ {T : State} {h : Heap} {locs : List Loc} {pc : Nat} {ls : Array Slot} {st : List Value} {me : own_Me}, Stand p l e R s m args below meth c T locs cells slots → Fr n0 locs → T.heap = h → own_MO Z h as kc me → own_FO Z h as fl → me.map (·.1) = ks → own_mx B f fl cl wl n pc ls st me = some (pc', ls', st', me') →
    (∀ T' h' locs', Stand p l e R s m args below meth c T' locs' cells slots → Fr n0 locs' → T'.heap = h' → Keep h h' (own_WL as wl) → (wl = [] → h' = h) → own_MO Z h' as kc me' → own_Ends p e below s Q cc nn T' (rnF m as pc' ls' st')) → own_Ends p e below s Q cc nn T (rnF m as pc ls st) := by
  induction n with
  | zero => intro T h locs pc ls st me X N eT M F hks hm K; cases hm; exact K T h locs X N eT (Keep.refl _ _) (fun _ => rfl) M
  | succ n ih =>
    intro T h locs pc ls st me X N eT M F hks hm K
    unfold own_mx at hm
    split at hm
    · split at hm
      · rename_i i ln g _ pc1 ls1 st1 me1 g1
        exact own_mstep X tt.1 hZ hown N eT M F L LC I hks hnd hkl hfl hfk hwo i (tt.2 _ _ g) g1 fun T1 h1 locs1 X1 N1 e1 K1 Q1 M1 F1 hk1 => ih X1 N1 e1 M1 F1 hk1 hm fun T2 h2 locs2 X2 N2 e2 K2 Q2 M2 => K T2 h2 locs2 X2 N2 e2 (K1.trans K2 fun x hx => Or.inl hx) (fun q => (Q2 q).trans (Q1 q)) M2
      · exact nomatch hm
    · exact nomatch hm
def own_ups (us : List (Nat × List Value)) (me : own_Me) : own_Me := us.foldl (fun m q => own_up q.1 q.2 m) me
def own_mxq (B : Nat) (f : Nat → Option (Instr × Nat)) (fl : own_Fe) (cl : List (Nat × Int64)) (wl : List Nat) (n pc : Nat) (ls : List Slot) (st : List Value) (me : own_Me) (pc' : Nat) (ls' : List Slot) (st' : List Value) (me' : own_Me) : Bool := match own_mx B f fl cl wl n pc ls.toArray st me with
  | some (a, b, c, d) => Nat.beq a pc' && (decide (b.toList = ls') && (decide (c = st') && decide (d = me')))
  | none => false
theorem own_mxq_ok {B : Nat} {f : Nat → Option (Instr × Nat)} {fl : own_Fe} {cl : List (Nat × Int64)} {wl : List Nat} {n pc : Nat} {ls : List Slot} {st : List Value} {me : own_Me} {pc' : Nat} {ls' : List Slot} {st' : List Value} {me' : own_Me} (hh : own_mxq B f fl cl wl n pc ls st me pc' ls' st' me' = true) : own_mx B f fl cl wl n pc ls.toArray st me = some (pc', ls'.toArray, st', me') := by
  unfold own_mxq at hh
  split at hh
  · rename_i a b c d g
    obtain ⟨h1, h2⟩ := (Bool.and_eq_true _ _).mp hh
    obtain ⟨h3, h4⟩ := (Bool.and_eq_true _ _).mp h2
    obtain ⟨h5, h6⟩ := (Bool.and_eq_true _ _).mp h4
    have e1 := Nat.eq_of_beq_eq_true h1
    have e2 := of_decide_eq_true h3
    have e3 := of_decide_eq_true h5
    have e4 := of_decide_eq_true h6
    subst e1 e2 e3 e4
    rw [g]
  · exact nomatch hh
def own_ckk (ks : List Nat) (fl : own_Fe) (na : Nat) : Bool := decide ks.Nodup && (ks.all (fun j => Nat.blt j na) && (fl.map (·.1)).all (fun j => Nat.blt j na && !decide (j ∈ ks)))
theorem own_mrun2 {B : Nat} {f : Nat → Option (Instr × Nat)} {kc : List ClassId} {fl : own_Fe} {cl : List (Nat × Int64)} {wl ks : List Nat} {na pc' : Nat} {ls' : List Slot} {st' : List Value} {ups : List (Nat × List Value)} {T : State} {h : Heap} {locs : List Loc} {pc : Nat} {ls : List Slot} {st : List Value} {me : own_Me}
    (tt : own_T p c B f) (hZ : Z.Warmed39 s.vm) (hown : s.vm.findClass own = some m.cls) (X : Stand p l e R s m args below meth c T locs cells slots) (N : Fr n0 locs) (eT : T.heap = h) (L : own_LK Z a0 own fl) (LC : own_LC Z a0 own cl) (F : own_FO Z h as fl) (M : own_MO Z h as kc me) (I : wl = [] ∨ own_Inc as) (hwo : own_WO n0 as wl) (hna : as.length = na) (hks : me.map (·.1) = ks) (hck : own_ckk ks fl na = true) (n : Nat)
    (hm : own_mxq B f fl cl wl n pc ls st me pc' ls' st' (own_ups ups me) = true)
    (K : ∀ T' h' locs', Stand p l e R s m args below meth c T' locs' cells slots → Fr n0 locs' → T'.heap = h' → Keep h h' (own_WL as wl) → (wl = [] → h' = h) → own_MO Z h' as kc (own_ups ups me) → own_Ends p e below s Q cc nn T' (mkF m pc' (ls'.map (rnS as)).toArray (st'.map (rnV as)))) :
    own_Ends p e below s Q cc nn T (mkF m pc (ls.map (rnS as)).toArray (st.map (rnV as))) := by
  unfold own_ckk at hck
  obtain ⟨c1, c2⟩ := (Bool.and_eq_true _ _).mp hck
  obtain ⟨c3, c4⟩ := (Bool.and_eq_true _ _).mp c2
  have d3 : ∀ j ∈ ks, j < as.length := fun j hj => by rw [hna]; exact Nat.le_of_ble_eq_true (List.all_eq_true.mp c3 j hj)
  have d4 : ∀ j ∈ fl.map (·.1), j < as.length ∧ j ∉ ks := fun j hj => by
    obtain ⟨q1, q2⟩ := (Bool.and_eq_true _ _).mp (List.all_eq_true.mp c4 j hj)
    exact ⟨by rw [hna]; exact Nat.le_of_ble_eq_true q1, fun w => by rw [decide_eq_true w] at q2; cases q2⟩
  have r := own_mrun (Q := Q) (cc := cc) (nn := nn) tt hZ hown L LC I (of_decide_eq_true c1) d3 (fun j hj => (d4 j hj).1) (fun j hj => (d4 j hj).2) hwo n X N eT M F hks (own_mxq_ok hm)
  simp only [rnF, List.map_toArray] at r
  exact r K
theorem oA {a b : Prop} (x : a) (y : b) : a ∧ b := ⟨x, y⟩
theorem own_mrun3 {B : Nat} {f : Nat → Option (Instr × Nat)} {kc : List ClassId} {fl : own_Fe} {cl : List (Nat × Int64)} {wl ks : List Nat} {na pc' : Nat} {ls' : List Slot} {st' : List Value} {ups : List (Nat × List Value)} {T : State} {h : Heap} {locs : List Loc} {pc : Nat} {ls : List Slot} {st : List Value} {me : own_Me}
    (tt : own_T p c B f) (hZ : Z.Warmed39 s.vm) (hown : s.vm.findClass own = some m.cls) (X : Stand p l e R s m args below meth c T locs cells slots) (N : Fr n0 locs) (eT : T.heap = h) (L : own_LK Z a0 own fl) (LC : own_LC Z a0 own cl) (F : own_FO Z h as fl) (M : own_MO Z h as kc me) (I : wl = [] ∨ own_Inc as) (hwo : own_WO n0 as wl) (hna : as.length = na) (hks : me.map (·.1) = ks) (hck : own_ckk ks fl na = true) (n : Nat)
    (hm : own_mx B f fl cl wl n pc ls.toArray st me = some (pc', ls'.toArray, st', own_ups ups me))
    (K : ∀ T' h' locs', Stand p l e R s m args below meth c T' locs' cells slots → Fr n0 locs' → T'.heap = h' → Keep h h' (own_WL as wl) → (wl = [] → h' = h) → own_MO Z h' as kc (own_ups ups me) → own_Ends p e below s Q cc nn T' (mkF m pc' (ls'.map (rnS as)).toArray (st'.map (rnV as)))) :
    own_Ends p e below s Q cc nn T (mkF m pc (ls.map (rnS as)).toArray (st.map (rnV as))) := by
  unfold own_ckk at hck
  obtain ⟨c1, c2⟩ := (Bool.and_eq_true _ _).mp hck
  obtain ⟨c3, c4⟩ := (Bool.and_eq_true _ _).mp c2
  have d3 : ∀ j ∈ ks, j < as.length := fun j hj => by rw [hna]; exact Nat.le_of_ble_eq_true (List.all_eq_true.mp c3 j hj)
  have d4 : ∀ j ∈ fl.map (·.1), j < as.length ∧ j ∉ ks := fun j hj => by
    obtain ⟨q1, q2⟩ := (Bool.and_eq_true _ _).mp (List.all_eq_true.mp c4 j hj)
    exact ⟨by rw [hna]; exact Nat.le_of_ble_eq_true q1, fun w => by rw [decide_eq_true w] at q2; cases q2⟩
  have r := own_mrun (Q := Q) (cc := cc) (nn := nn) tt hZ hown L LC I (of_decide_eq_true c1) d3 (fun j hj => (d4 j hj).1) (fun j hj => (d4 j hj).2) hwo n X N eT M F hks hm
  simp only [rnF, List.map_toArray] at r
  exact r K
end Mem
theorem own_nat32 (x : Int32) (h : 0 ≤ x.toInt) : x.toInt = (x.toBitVec.toNat : Int) := by
  have e : x.toInt = x.toBitVec.toInt := rfl
  rw [BitVec.toInt_eq_toNat_cond] at e
  have := x.toBitVec.isLt
  split at e <;> omega
theorem own_maskI (x m : Int32) (h : 0 ≤ m.toInt) : 0 ≤ (x &&& m).toInt ∧ (x &&& m).toInt ≤ m.toInt := by
  have hm := own_nat32 m h
  have h1 : (x &&& m).toBitVec.toNat ≤ m.toBitVec.toNat := by rw [Int32.toBitVec_and, BitVec.toNat_and]; exact Nat.and_le_right
  have e : (x &&& m).toInt = (x &&& m).toBitVec.toInt := rfl
  have hl := Int32.toInt_lt m
  rw [e, BitVec.toInt_eq_toNat_cond]
  split <;> omega
theorem own_m2 (x : Int32) : ((x &&& (2147483647 : Int32)) % (2 : Int32)) = 0 ∨ ((x &&& (2147483647 : Int32)) % (2 : Int32)) = 1 := by
  have h := own_maskI x 2147483647 (by decide)
  have e : ((x &&& (2147483647 : Int32)) % (2 : Int32)).toInt = (x &&& (2147483647 : Int32)).toInt.tmod 2 := Int32.toInt_mod _ _
  have q : ((x &&& (2147483647 : Int32)) % (2 : Int32)).toInt = 0 ∨ ((x &&& (2147483647 : Int32)) % (2 : Int32)).toInt = 1 := by
    rw [e, Int.tmod_eq_emod_of_nonneg h.1]; omega
  rcases q with q | q
  · exact Or.inl (Int32.toInt_inj.mp q)
  · exact Or.inr ((Int32.toInt_inj.mp q))
theorem own_m3 (x : Int32) : ((x &&& (2147483647 : Int32)) % (3 : Int32)) = 0 ∨ ((x &&& (2147483647 : Int32)) % (3 : Int32)) = 1 ∨ ((x &&& (2147483647 : Int32)) % (3 : Int32)) = 2 := by
  have h := own_maskI x 2147483647 (by decide)
  have e : ((x &&& (2147483647 : Int32)) % (3 : Int32)).toInt = (x &&& (2147483647 : Int32)).toInt.tmod 3 := Int32.toInt_mod _ _
  have q : ((x &&& (2147483647 : Int32)) % (3 : Int32)).toInt = 0 ∨ ((x &&& (2147483647 : Int32)) % (3 : Int32)).toInt = 1 ∨ ((x &&& (2147483647 : Int32)) % (3 : Int32)).toInt = 2 := by
    rw [e, Int.tmod_eq_emod_of_nonneg h.1]; omega
  rcases q with q | q | q
  · exact Or.inl (Int32.toInt_inj.mp q)
  · exact Or.inr (Or.inl (Int32.toInt_inj.mp q))
  · exact Or.inr (Or.inr ((Int32.toInt_inj.mp q)))
def own_t5 (pc : Nat) : Option (Instr × Nat) := bif Nat.beq pc 0 then some (.aload_n 0, 1) else none
theorem own_ok5 : ∀ pc q, own_fetch 5 own_t5 pc = some q → decode jdk_22_method_1_code pc = .ok q := own_tab (by decide +kernel)
theorem d5_1 : decode jdk_22_method_1_code 1 = .ok (.invokespecial 1, 3) := by decide +kernel
theorem d5_4 : decode jdk_22_method_1_code 4 = .ok (.return_, 1) := by decide +kernel
theorem pn_4 : plainName "java/util/AbstractCollection" = true := by first | (simp [plainName, overriddenIn]; done) | decide +kernel
def Q5a4 (Z : State)  (h0 : Heap) (n0 : Nat) (v : Option Value) (h : Heap) (L : List Loc) : Prop := v = none ∧ Fr n0 L ∧ h = h0
set_option maxRecDepth 65536 in
set_option maxHeartbeats 40000000 in
theorem rm5a4 (l : Launch) (Z : State) (a0 : Array Value) (hw : HW a0 Z) (ws : List Jvm.Cond) (b9 : Addr) (h0 : Heap) (n0 : Nat) (Z0 : n0 ≤ h0.size) :
    own_Met l mn0 jdk_22_method_1_code 1 none ws (oRm 1 0 0 12) #[(.ref b9)] Z h0 (Q5a4 Z  h0 n0) := by
  refine own_met (own := "java/util/AbstractCollection") rfl (plainFor_of_name pn_4) ?_
  intro p e s m below meth c s₁ hx hby hml hZ hown hnm X0 e0 Br Bs
  have N0 := Fr.nil n0
  have tt := own_tt hx hby own_ok5
  show own_Ends p e below s _ _ _ s₁ (mkF m 0 #[oR b9] [])
  refine own_go (T' := s₁) (f' := (mkF m 1 #[oR b9] [vR b9])) (fun _ k => own_e X0 tt 0 1 k rfl) ?_
  obtain ⟨T12, X12, e12, st12⟩ := initO X0 hx hZ hown (ow28 hw) (ow7 hw) (ow8 hw) e0 (g := (mkF m 1 #[oR b9] [vR b9])) rfl (by rw [hml]; rfl) rfl (hb hby d5_1) (by decide) (W := 0) (by show 2 * 0 + _ ≤ _; exact Nat.le_of_eq rfl) (by decide)
  refine own_go (T' := T12) (f' := (mkF m 4 #[oR b9] [])) (fun _ k => st12 _ k) ?_
  refine own_ret X12 (v := none) (fun _ => rfl) Bs (fun fs hr => X12.returnOut hx Br (hb hby d5_4) hr) ?_ (by decide) (by decide)
  unfold Q5a4
  exact ⟨rfl, N0, e12⟩
theorem pd2 : parseMethodDescriptor "()V" = some ⟨[], none⟩ := by decide +kernel
def own_t4 (pc : Nat) : Option (Instr × Nat) := bif Nat.ble pc 0 then (bif Nat.beq pc 0 then some (.aload_n 0, 1) else none) else (bif Nat.ble pc 4 then (bif Nat.beq pc 4 then some (.aload_n 0, 1) else none) else (bif Nat.beq pc 5 then some (.iconst 0, 1) else none))
theorem own_ok4 : ∀ pc q, own_fetch 10 own_t4 pc = some q → decode jdk_39_method_1_code pc = .ok q := own_tab (by decide +kernel)
theorem d4_1 : decode jdk_39_method_1_code 1 = .ok (.invokespecial 1, 3) := by decide +kernel
theorem d4_6 : decode jdk_39_method_1_code 6 = .ok (.putfield 7, 3) := by decide +kernel
theorem d4_9 : decode jdk_39_method_1_code 9 = .ok (.return_, 1) := by decide +kernel
theorem pn_5 : plainName "java/util/AbstractList" = true := by first | (simp [plainName, overriddenIn]; done) | decide +kernel
def Q4a3 (Z : State) (b9 : Addr) (h0 : Heap) (n0 : Nat) (v : Option Value) (h : Heap) (L : List Loc) : Prop := v = none ∧ Fr n0 L ∧ Keep h0 h [b9] ∧ oF0 Z h b9 (.int (0 : Int32)) ∧ oF1 Z h b9 .null ∧ oF2 Z h b9 (.int (0 : Int32))
set_option maxRecDepth 65536 in
set_option maxHeartbeats 40000000 in
theorem rm4a3 (l : Launch) (Z : State) (a0 : Array Value) (hw : HW a0 Z) (ws : List Jvm.Cond) (b9 : Addr) (h0 : Heap) (n0 : Nat) (Z0 : n0 ≤ h0.size) (PE9 : Exa Z h0 b9 "java/util/ArrayList") (PF10 : oF0 Z h0 b9 (.int (0 : Int32))) (PF11 : oF1 Z h0 b9 .null) (PF12 : oF2 Z h0 b9 (.int (0 : Int32))) (n_b9 : n0 ≤ b9) :
    own_Met l mn1 jdk_39_method_1_code 1 none ws (oRm 2 0 0 24) #[(.ref b9)] Z h0 (Q4a3 Z b9 h0 n0) := by
  refine own_met (own := "java/util/AbstractList") rfl (plainFor_of_name pn_5) ?_
  intro p e s m below meth c s₁ hx hby hml hZ hown hnm X0 e0 Br Bs
  have N0 := Fr.nil n0
  have tt := own_tt hx hby own_ok4
  show own_Ends p e below s _ _ _ s₁ (mkF m 0 #[oR b9] [])
  refine own_go (T' := s₁) (f' := (mkF m 1 #[oR b9] [vR b9])) (fun _ k => own_e X0 tt 0 1 k rfl) ?_
  obtain ⟨_, T13, Lc13, X13, hQ13, st13⟩ := own_out (X0.specialBack hx (y := mn0) rfl hown (mvT hZ (ow22 hw)) (mvT hZ (ow23 hw)) (mvT hZ (ow27 hw)) (by decide) (backOf (W := 0) (rm5a4 l Z a0 hw [] b9 h0 n0 Z0 ) hZ (ow27 hw) (ow26 hw) (by decide) (by decide)) (g := (mkF m 1 #[oR b9] [vR b9])) rfl (by rw [hml]; rfl) (Steps.refl _) (a := b9) (argsL := []) (rest := []) (lenOf pd2 rfl) rfl (by show 2 * 0 + _ ≤ _; exact Nat.le_of_eq rfl) (hb hby d4_1) (fun _ _ => ⟨rfl, e0, (by decide : 0 + 0 ≤ _), (by decide : 0 + 0 ≤ _)⟩))
  obtain ⟨rfl, N13q, hh13⟩ := hQ13
  have N13 := Fr.app N0 N13q
  obtain ⟨_, X13, N13⟩ := own_hide X13 N13
  refine own_go (T' := T13) (f' := (mkF m 6 #[oR b9] [vI 0, vR b9])) (fun _ k => st13.trans (own_e X13 tt 4 2 k rfl)) ?_
  obtain ⟨T14, h14, X14, e14, W14, st14⟩ := putF X13 hx hZ hown (host := "") (Or.inl (ow29 hw)) Via.refl hh13 PF10 PE9 (Or.inl (ow30 hw)) (ow11 hw) (ty := .int) (by decide) rfl rfl (g := (mkF m 6 #[oR b9] [vI 0, vR b9])) rfl rfl (hb hby d4_6)
  have Fw14 := Fld.same W14 PF10
  have K14 : Keep h0 h14 [b9] := (Keep.refl h0 [b9]).wr W14 (Or.inl (List.mem_of_getElem? (i := 0) rfl))
  have N14 := Fr.snoc X14 N13 n_b9
  refine own_go (T' := T14) (f' := (mkF m 9 #[oR b9] [])) (fun _ k => st14 _ k) ?_
  refine own_ret X14 (v := none) (fun _ => rfl) Bs (fun fs hr => X14.returnOut hx Br (hb hby d4_9) hr) ?_ (by decide) (by decide)
  unfold Q4a3
  rw [e14]
  exact ⟨rfl, N14, K14, Fw14, (PF11.other W14 (Or.inr (sn_33_30 hw))), (PF12.other W14 (Or.inr (sn_58_30 hw)))⟩
def own_t3 (pc : Nat) : Option (Instr × Nat) := bif Nat.ble pc 0 then (bif Nat.beq pc 0 then some (.aload_n 0, 1) else none) else (bif Nat.beq pc 4 then some (.aload_n 0, 1) else none)
theorem own_ok3 : ∀ pc q, own_fetch 12 own_t3 pc = some q → decode jdk_38_method_2_code pc = .ok q := own_tab (by decide +kernel)
theorem d3_1 : decode jdk_38_method_2_code 1 = .ok (.invokespecial 1, 3) := by decide +kernel
theorem d3_5 : decode jdk_38_method_2_code 5 = .ok (.getstatic 39, 3) := by decide +kernel
theorem d3_8 : decode jdk_38_method_2_code 8 = .ok (.putfield 9, 3) := by decide +kernel
theorem d3_11 : decode jdk_38_method_2_code 11 = .ok (.return_, 1) := by decide +kernel
theorem pn_6 : plainName "java/util/ArrayList" = true := by first | (simp [plainName, overriddenIn]; done) | decide +kernel
def Q3a2 (Z : State) (b9 : Addr) (wd : Addr) (h0 : Heap) (n0 : Nat) (v : Option Value) (h : Heap) (L : List Loc) : Prop := v = none ∧ Fr n0 L ∧ Keep h0 h [b9] ∧ oF0 Z h b9 (.int (0 : Int32)) ∧ oF1 Z h b9 (.ref wd) ∧ oF2 Z h b9 (.int (0 : Int32))
set_option maxRecDepth 65536 in
set_option maxHeartbeats 40000000 in
theorem rm3a2 (l : Launch) (Z : State) (a0 : Array Value) (hw : HW a0 Z) (ws : List Jvm.Cond) (b9 : Addr) (wd : Addr) (h0 : Heap) (n0 : Nat) (Z0 : n0 ≤ h0.size) (PS0 : Sta Z h0 "java/util/ArrayList" "DEFAULTCAPACITY_EMPTY_ELEMENTDATA" "[Ljava/lang/Object;" (.ref wd)) (PE9 : Exa Z h0 b9 "java/util/ArrayList") (PF10 : oF0 Z h0 b9 (.int (0 : Int32))) (PF11 : oF1 Z h0 b9 .null) (PF12 : oF2 Z h0 b9 (.int (0 : Int32))) (n_b9 : n0 ≤ b9) :
    own_Met l mn2 jdk_38_method_2_code 1 none ws (oRm 3 0 0 36) #[(.ref b9)] Z h0 (Q3a2 Z b9 wd h0 n0) := by
  refine own_met (own := "java/util/ArrayList") rfl (plainFor_of_name pn_6) ?_
  intro p e s m below meth c s₁ hx hby hml hZ hown hnm X0 e0 Br Bs
  have N0 := Fr.nil n0
  have tt := own_tt hx hby own_ok3
  show own_Ends p e below s _ _ _ s₁ (mkF m 0 #[oR b9] [])
  refine own_go (T' := s₁) (f' := (mkF m 1 #[oR b9] [vR b9])) (fun _ k => own_e X0 tt 0 1 k rfl) ?_
  obtain ⟨_, T15, Lc15, X15, hQ15, st15⟩ := own_out (X0.specialBack hx (y := mn1) rfl hown (mvT hZ (ow16 hw)) (mvT hZ (ow17 hw)) (mvT hZ (ow21 hw)) (by decide) (backOf (W := 0) (rm4a3 l Z a0 hw [] b9 h0 n0 Z0 PE9 PF10 PF11 PF12 n_b9) hZ (ow21 hw) (ow20 hw) (by decide) (by decide)) (g := (mkF m 1 #[oR b9] [vR b9])) rfl (by rw [hml]; rfl) (Steps.refl _) (a := b9) (argsL := []) (rest := []) (lenOf pd2 rfl) rfl (by show 2 * 0 + _ ≤ _; exact Nat.le_of_eq rfl) (hb hby d3_1) (fun _ _ => ⟨rfl, e0, (by decide : 0 + 0 ≤ _), (by decide : 0 + 0 ≤ _)⟩))
  obtain ⟨rfl, N15q, K15, g15_0, g15_1, g15_2⟩ := hQ15
  have N15 := Fr.app N0 N15q
  have eK15 : T15.heap = T15.heap := rfl
  have KK15 : Keep h0 T15.heap [b9] := Keep.trans (Keep.refl h0 [b9]) K15 (allS (Or.inl (List.mem_of_getElem? (i := 0) rfl)) all0)
  obtain ⟨_, X15, N15⟩ := own_hide X15 N15
  refine own_go (T' := T15) (f' := (mkF m 5 #[oR b9] [vR b9])) (fun _ k => st15.trans (own_e X15 tt 4 1 k rfl)) ?_
  obtain ⟨T16, X16, e16, st16⟩ := getS2 X15 hx hZ hown (host := "") (Or.inl (ow31 hw)) Via.refl eK15 (own_sta_keep PS0 K15 (own_wsE PE9 own_ws0)) (g := (mkF m 5 #[oR b9] [vR b9])) rfl (hb hby d3_5)
  refine own_go (T' := T16) (f' := (mkF m 8 #[oR b9] [vR wd, vR b9])) (fun _ k => st16 _ k) ?_
  obtain ⟨T17, h17, X17, e17, W17, st17⟩ := putF X16 hx hZ hown (host := "") (Or.inl (ow32 hw)) Via.refl e16 g15_1 (PE9.keep K15) (Or.inl (ow33 hw)) (ow11 hw) (ty := (.array (.object "java/lang/Object"))) (by decide) rfl rfl (g := (mkF m 8 #[oR b9] [vR wd, vR b9])) rfl rfl (hb hby d3_8)
  have Fw17 := Fld.same W17 g15_1
  have K17 : Keep h0 h17 [b9] := KK15.wr W17 (Or.inl (List.mem_of_getElem? (i := 0) rfl))
  have N17 := Fr.snoc X17 N15 n_b9
  refine own_go (T' := T17) (f' := (mkF m 11 #[oR b9] [])) (fun _ k => st17 _ k) ?_
  refine own_ret X17 (v := none) (fun _ => rfl) Bs (fun fs hr => X17.returnOut hx Br (hb hby d3_11) hr) ?_ (by decide) (by decide)
  unfold Q3a2
  rw [e17]
  exact ⟨rfl, N17, K17, (g15_0.other W17 (Or.inr (sn_30_33 hw))), Fw17, (g15_2.other W17 (Or.inr (sn_58_33 hw)))⟩
def own_t11 (pc : Nat) : Option (Instr × Nat) := bif Nat.ble pc 1 then (bif Nat.ble pc 0 then (bif Nat.beq pc 0 then some (.iload_n 0, 1) else none) else (bif Nat.beq pc 1 then some (.iload_n 1, 1) else none)) else (bif Nat.ble pc 2 then (bif Nat.beq pc 2 then some (.if_icmp .lt 7, 3) else none) else (bif Nat.ble pc 5 then (bif Nat.beq pc 5 then some (.iload_n 0, 1) else none) else (bif Nat.beq pc 6 then some (.goto 4, 3) else none)))
theorem own_ok11 : ∀ pc q, own_fetch 11 own_t11 pc = some q → decode jdk_29_method_65_code pc = .ok q := own_tab (by decide +kernel)
theorem d11_10 : decode jdk_29_method_65_code 10 = .ok (.ireturn, 1) := by decide +kernel
def Q11a11 (Z : State)  (h0 : Heap) (n0 : Nat) (v : Option Value) (h : Heap) (L : List Loc) : Prop := v = some (.int (10 : Int32)) ∧ Fr n0 L ∧ h = h0
set_option maxRecDepth 65536 in
set_option maxHeartbeats 40000000 in
theorem rm11a11 (l : Launch) (Z : State) (a0 : Array Value) (hw : HW a0 Z) (ws : List Jvm.Cond)  (h0 : Heap) (n0 : Nat) (Z0 : n0 ≤ h0.size) :
    own_Met l mn3 jdk_29_method_65_code 2 (some .int) ws (oRm 0 0 0 0) #[(.int (10 : Int32)), (.int (1 : Int32))] Z h0 (Q11a11 Z  h0 n0) := by
  refine own_met (own := "java/lang/Math") rfl (Jvm.Free.JP.mathPlain rfl (by decide +kernel)) ?_
  intro p e s m below meth c s₁ hx hby hml hZ hown hnm X0 e0 Br Bs
  have N0 := Fr.nil n0
  have tt := own_tt hx hby own_ok11
  show own_Ends p e below s _ _ _ s₁ (mkF m 0 #[oI 10, oI 1] [])
  refine own_go (T' := s₁) (f' := (mkF m 10 #[oI 10, oI 1] [vI 10])) (fun _ k => own_e X0 tt 0 5 k rfl) ?_
  refine own_ret X0 (v := some (.int (10 : Int32))) (oN Br) Bs (fun fs hr => retI X0 hx Br (hb hby d11_10) hr) ?_ (by decide) (by decide)
  unfold Q11a11
  exact ⟨rfl, N0, e0⟩
theorem pd7 : parseMethodDescriptor "(II)I" = some ⟨[.int, .int], some .int⟩ := by decide +kernel
def own_t10 (pc : Nat) : Option (Instr × Nat) := bif Nat.ble pc 7 then (bif Nat.ble pc 4 then (bif Nat.ble pc 0 then (bif Nat.beq pc 0 then some (.aload_n 0, 1) else none) else (bif Nat.ble pc 1 then (bif Nat.beq pc 1 then some (.getfield 9, 3) else none) else (bif Nat.beq pc 4 then some (.arraylength, 1) else none))) else (bif Nat.ble pc 5 then (bif Nat.beq pc 5 then some (.istore_n 2, 1) else none) else (bif Nat.ble pc 6 then (bif Nat.beq pc 6 then some (.iload_n 2, 1) else none) else (bif Nat.beq pc 7 then some (.ifCond .gt 13, 3) else none)))) else (bif Nat.ble pc 45 then (bif Nat.ble pc 10 then (bif Nat.beq pc 10 then some (.aload_n 0, 1) else none) else (bif Nat.ble pc 11 then (bif Nat.beq pc 11 then some (.getfield 9, 3) else none) else (bif Nat.beq pc 45 then some (.aload_n 0, 1) else none))) else (bif Nat.ble pc 46 then (bif Nat.beq pc 46 then some (.bipush 10, 2) else none) else (bif Nat.ble pc 48 then (bif Nat.beq pc 48 then some (.iload_n 1, 1) else none) else (bif Nat.beq pc 55 then some (.dup_x1, 1) else none))))
theorem own_ok10 : ∀ pc q, own_fetch 60 own_t10 pc = some q → decode jdk_38_method_6_code pc = .ok q := own_tab (by decide +kernel)
theorem d10_14 : decode jdk_38_method_6_code 14 = .ok (.getstatic 39, 3) := by decide +kernel
theorem d10_17 : decode jdk_38_method_6_code 17 = .ok (.if_acmp .eq 28, 3) := by decide +kernel
theorem d10_49 : decode jdk_38_method_6_code 49 = .ok (.invokestatic 79, 3) := by decide +kernel
theorem d10_52 : decode jdk_38_method_6_code 52 = .ok (.anewarray 7, 3) := by decide +kernel
theorem d10_56 : decode jdk_38_method_6_code 56 = .ok (.putfield 9, 3) := by decide +kernel
theorem d10_59 : decode jdk_38_method_6_code 59 = .ok (.areturn, 1) := by decide +kernel
def Q10a10 (Z : State) (b9 : Addr) (h0 : Heap) (n0 : Nat) (v : Option Value) (h : Heap) (L : List Loc) : Prop := ∃ (b33 : Addr) (k33 : ClassId), v = some (.ref b33) ∧ Fr n0 L ∧ Keep h0 h [b9] ∧ n0 ≤ b33 ∧ h0.size ≤ b33 ∧ oF0 Z h b9 (.int (1 : Int32)) ∧ oF1 Z h b9 (.ref b33) ∧ oF2 Z h b9 (.int (0 : Int32)) ∧ Arv Z h b33 k33 (.object "java/lang/Object") (10 : Int32) own_ls0 .null ∧ Ovr Z k33 "java/lang/Object"
set_option maxRecDepth 65536 in
set_option maxHeartbeats 40000000 in
theorem rm10a10 (l : Launch) (Z : State) (a0 : Array Value) (hw : HW a0 Z) (ws : List Jvm.Cond) (b9 : Addr) (wd : Addr) (kd : ClassId) (h0 : Heap) (n0 : Nat) (Z0 : n0 ≤ h0.size) (PS0 : Sta Z h0 "java/util/ArrayList" "DEFAULTCAPACITY_EMPTY_ELEMENTDATA" "[Ljava/lang/Object;" (.ref wd)) (PV1 : Arv Z h0 wd kd (.object "java/lang/Object") (0 : Int32) [] .null) (PE9 : Exa Z h0 b9 "java/util/ArrayList") (PF10 : oF0 Z h0 b9 (.int (1 : Int32))) (PF11 : oF1 Z h0 b9 (.ref wd)) (PF12 : oF2 Z h0 b9 (.int (0 : Int32))) (n_b9 : n0 ≤ b9) :
    own_Met l mn4 jdk_38_method_6_code 4 (some (.array (.object "java/lang/Object"))) ws (oRm 1 1 10 14) #[(.ref b9), (.int (1 : Int32))] Z h0 (Q10a10 Z b9 h0 n0) := by
  refine own_met (own := "java/util/ArrayList") rfl (plainFor_of_name pn_6) ?_
  intro p e s m below meth c s₁ hx hby hml hZ hown hnm X0 e0 Br Bs
  have N0 := Fr.nil n0
  have tt := own_tt hx hby own_ok10
  show own_Ends p e below s _ _ _ s₁ (mkF m 0 #[oR b9, oI 1, oU, oU] [])
  refine own_mrun2 (a0 := a0) (as := [b9, wd]) (kc := [0, kd]) (fl := [fE10_9 0 (vR 1)]) (cl := []) (wl := []) (ks := [1]) (na := 2) (ls := [oR 0, oI 1, oU, oU]) (st := []) (me := [(1, (.object "java/lang/Object"), 0, [])]) (pc' := 14) (ls' := [oR 0, oI 1, oI 0, oU]) (st' := [vR 1]) (ups := []) tt hZ hown X0 N0 e0 (oA (ow32 hw) trivial) trivial (oA PF11 trivial) (oA PV1 trivial) (Or.inl rfl) trivial rfl rfl (by decide +kernel) 8 (by decide +kernel) fun T30 h30 _ X30 N30 e30 K30 q30 M30 => ?_
  have e30 := e30.trans (q30 rfl)
  show own_Ends p e below s _ _ _ T30 (mkF m 14 #[oR b9, oI 1, oI 0, oU] [vR wd])
  obtain ⟨T31, X31, e31, st31⟩ := getS2 X30 hx hZ hown (host := "") (Or.inl (ow31 hw)) Via.refl e30 PS0 (g := (mkF m 14 #[oR b9, oI 1, oI 0, oU] [vR wd])) rfl (hb hby d10_14)
  refine own_go (T' := T31) (f' := (mkF m 49 #[oR b9, oI 1, oI 0, oU] [vI 1, vI 10, vR b9])) (fun _ k => st31 _ (Jvm.RoadKit.acmp (g := (mkF m 17 #[oR b9, oI 1, oI 0, oU] [vR wd, vR wd])) X31 hx rfl rfl rfl (pc0 := 17) (pc' := 45) (same := true) rfl (hb hby d10_17) rfl (decide_eq_true rfl) (by decide) (by decide) (own_e X31 tt 45 3 k rfl))) ?_
  obtain ⟨_, T32, Lc32, X32, hQ32, st32⟩ := own_outC (Jvm.LawKit.callS X31 hx (y := mn3) hown (mvT hZ (ow74 hw)) (mvT hZ (ow75 hw)) (mvT hZ (ow76 hw)) (mvT hZ (ow77 hw)) (by decide) (backOf (W := 1) (rm11a11 l Z a0 hw []  h0 n0 Z0 ) hZ (ow77 hw) (ow76 hw) (by decide) (by decide)) (g := (mkF m 49 #[oR b9, oI 1, oI 0, oU] [vI 1, vI 10, vR b9])) rfl (by rw [hml]; rfl) (argsL := [(.int (10 : Int32)), (.int (1 : Int32))]) (rest := [(.ref b9)]) (lenOf pd7 rfl) rfl (by show 2 * 0 + _ ≤ _; exact Nat.le_of_eq rfl) (hb hby d10_49) (fun _ _ => ⟨rfl, e31, (by decide : 0 + 0 ≤ _), (by decide : 0 + 0 ≤ _)⟩))
  obtain ⟨rfl, N32q, hh32⟩ := hQ32
  have N32 := Fr.app N30 N32q
  obtain ⟨_, X32, N32⟩ := own_hide X32 N32
  refine own_go (T' := T32) (f' := (mkF m 52 #[oR b9, oI 1, oI 0, oU] [vI 10, vR b9])) (fun _ k => st32 _ k) ?_
  obtain ⟨T33, h33, k33, X33, e33, E33, A33, O33, st33⟩ := newR X32 hx hZ hown (ow78 hw) (ow79 hw) hh32 (g := (mkF m 52 #[oR b9, oI 1, oI 0, oU] [vI 10, vR b9])) rfl (hb hby d10_52) rfl (by decide) (cap := 10) (by decide) (by decide) (by decide) (by decide)
  obtain ⟨b33, g_b33⟩ : ∃ z, z = h0.size := ⟨_, rfl⟩
  have sg_b33 : h0.size ≤ b33 := Nat.le_of_eq g_b33.symm
  rw [← g_b33] at A33 st33
  have n_b33 := oT Z0 sg_b33
  have sz_b33 := oT (Keep.refl h0 [b9]).1 sg_b33
  have K33 : Keep h0 h33 [b9] := (Keep.refl h0 [b9]).ext E33
  have V_b33 : Arv Z h33 b33 k33 (.object "java/lang/Object") (10 : Int32) own_ls0 .null := (Arv.new A33 (by decide)).pad (pad_rep [] .null 10)
  refine own_go (T' := T33) (f' := (mkF m 56 #[oR b9, oI 1, oI 0, oU] [vR b33, vR b9, vR b33])) (fun _ k => st33 _ (own_e X33 tt 55 1 k rfl)) ?_
  obtain ⟨T34, h34, X34, e34, W34, st34⟩ := putF X33 hx hZ hown (host := "") (Or.inl (ow32 hw)) Via.refl e33 (PF11.ext E33) (PE9.ext E33) (Or.inl (ow33 hw)) (ow11 hw) (ty := (.array (.object "java/lang/Object"))) (by decide) rfl rfl (g := (mkF m 56 #[oR b9, oI 1, oI 0, oU] [vR b33, vR b9, vR b33])) rfl rfl (hb hby d10_56)
  have Fw34 := Fld.same W34 (PF11.ext E33)
  have K34 : Keep h0 h34 [b9] := K33.wr W34 (Or.inl (List.mem_of_getElem? (i := 0) rfl))
  have N34 := Fr.snoc X34 N32 n_b9
  refine own_go (T' := T34) (f' := (mkF m 59 #[oR b9, oI 1, oI 0, oU] [vR b33])) (fun _ k => st34 _ k) ?_
  refine own_ret X34 (v := some (.ref b33)) (oN Br) Bs (fun fs hr => own_retA X34 hx Br rfl rfl (hb hby d10_59) hr) ?_ (by decide) (by decide)
  unfold Q10a10
  rw [e34]
  exact ⟨b33, k33, rfl, N34, K34, n_b33, sz_b33, ((PF10.ext E33).other W34 (Or.inr (sn_30_33 hw))), Fw34, ((PF12.ext E33).other W34 (Or.inr (sn_58_33 hw))), (V_b33.other W34 (oM PE9.lt sz_b33)), O33⟩
theorem pd6 : parseMethodDescriptor "(I)[Ljava/lang/Object;" = some ⟨[.int], some (.array (.object "java/lang/Object"))⟩ := by decide +kernel
def own_t9 (pc : Nat) : Option (Instr × Nat) := bif Nat.ble pc 1 then (bif Nat.ble pc 0 then (bif Nat.beq pc 0 then some (.aload_n 0, 1) else none) else (bif Nat.beq pc 1 then some (.aload_n 0, 1) else none)) else (bif Nat.ble pc 2 then (bif Nat.beq pc 2 then some (.getfield 48, 3) else none) else (bif Nat.ble pc 5 then (bif Nat.beq pc 5 then some (.iconst 1, 1) else none) else (bif Nat.beq pc 6 then some (.iadd, 1) else none)))
theorem own_ok9 : ∀ pc q, own_fetch 11 own_t9 pc = some q → decode jdk_38_method_7_code pc = .ok q := own_tab (by decide +kernel)
theorem d9_7 : decode jdk_38_method_7_code 7 = .ok (.invokevirtual 69, 3) := by decide +kernel
theorem d9_10 : decode jdk_38_method_7_code 10 = .ok (.areturn, 1) := by decide +kernel
def Q9a9 (Z : State) (b9 : Addr) (h0 : Heap) (n0 : Nat) (v : Option Value) (h : Heap) (L : List Loc) : Prop := ∃ (b35a : Addr) (k35b : ClassId), v = some (.ref b35a) ∧ Fr n0 L ∧ Keep h0 h [b9] ∧ n0 ≤ b35a ∧ h0.size ≤ b35a ∧ oF0 Z h b9 (.int (1 : Int32)) ∧ oF1 Z h b9 (.ref b35a) ∧ oF2 Z h b9 (.int (0 : Int32)) ∧ Arv Z h b35a k35b (.object "java/lang/Object") (10 : Int32) own_ls0 .null ∧ Ovr Z k35b "java/lang/Object"
set_option maxRecDepth 65536 in
set_option maxHeartbeats 40000000 in
theorem rm9a9 (l : Launch) (Z : State) (a0 : Array Value) (hw : HW a0 Z) (ws : List Jvm.Cond) (b9 : Addr) (wd : Addr) (kd : ClassId) (h0 : Heap) (n0 : Nat) (Z0 : n0 ≤ h0.size) (PS0 : Sta Z h0 "java/util/ArrayList" "DEFAULTCAPACITY_EMPTY_ELEMENTDATA" "[Ljava/lang/Object;" (.ref wd)) (PV1 : Arv Z h0 wd kd (.object "java/lang/Object") (0 : Int32) [] .null) (PE9 : Exa Z h0 b9 "java/util/ArrayList") (PF10 : oF0 Z h0 b9 (.int (1 : Int32))) (PF11 : oF1 Z h0 b9 (.ref wd)) (PF12 : oF2 Z h0 b9 (.int (0 : Int32))) (n_b9 : n0 ≤ b9) :
    own_Met l mn5 jdk_38_method_7_code 1 (some (.array (.object "java/lang/Object"))) ws (oRm 2 1 10 29) #[(.ref b9)] Z h0 (Q9a9 Z b9 h0 n0) := by
  refine own_met (own := "java/util/ArrayList") rfl (plainFor_of_name pn_6) ?_
  intro p e s m below meth c s₁ hx hby hml hZ hown hnm X0 e0 Br Bs
  have N0 := Fr.nil n0
  have tt := own_tt hx hby own_ok9
  show own_Ends p e below s _ _ _ s₁ (mkF m 0 #[oR b9] [])
  refine own_mrun2 (a0 := a0) (as := [b9]) (kc := [0]) (fl := [fE9_48 0 (vI 0)]) (cl := []) (wl := []) (ks := []) (na := 1) (ls := [oR 0]) (st := []) (me := []) (pc' := 7) (ls' := [oR 0]) (st' := [vI 1, vR 0]) (ups := []) tt hZ hown X0 N0 e0 (oA (ow57 hw) trivial) trivial (oA PF12 trivial) trivial (Or.inl rfl) trivial rfl rfl (by decide +kernel) 5 (by decide +kernel) fun T29 h29 _ X29 N29 e29 K29 q29 M29 => ?_
  have e29 := e29.trans (q29 rfl)
  show own_Ends p e below s _ _ _ T29 (mkF m 7 #[oR b9] [vI 1, vR b9])
  obtain ⟨cq35, q35, q35'⟩ := PE9.cell
  obtain ⟨_, T35, Lc35, X35, hQ35, st35⟩ := own_out (X29.privateBack hx (y := mn4) hown (mvT hZ (ow69 hw)) (mvT hZ (ow70 hw)) (mvT hZ (ow72 hw)) (Cond.privateMethod_at (mvP hZ (ow71 hw) (args := #[]))) (mvT hZ (ow73 hw)) (by decide) (backOf (W := 0) (rm10a10 l Z a0 hw [] b9 wd kd h0 n0 Z0 PS0 PV1 PE9 PF10 PF11 PF12 n_b9) hZ (ow73 hw) (ow12 hw) (by decide) (by decide)) (g := (mkF m 7 #[oR b9] [vI 1, vR b9])) rfl (by rw [hml]; rfl) (Steps.refl _) (a := b9) (by rw [e29]; exact q35) q35' (argsL := [(.int (1 : Int32))]) (rest := []) (lenOf pd6 rfl) rfl (by show 2 * 0 + _ ≤ _; exact Nat.le_of_eq rfl) (hb hby d9_7) (fun _ _ => ⟨rfl, e29, (by decide : 0 + 1 ≤ _), (by decide : 0 + 10 ≤ _)⟩))
  obtain ⟨b35a, k35b, rfl, N35q, K35, n_b35a, sg_b35a, g35_0, g35_1, g35_2, g35_3, g35_4⟩ := hQ35
  have N35 := Fr.app N29 N35q
  have sz_b35a := oT (Keep.refl h0 [b9]).1 sg_b35a
  have eK35 : T35.heap = T35.heap := rfl
  have KK35 : Keep h0 T35.heap [b9] := Keep.trans (Keep.refl h0 [b9]) K35 (allS (Or.inl (List.mem_of_getElem? (i := 0) rfl)) all0)
  obtain ⟨_, X35, N35⟩ := own_hide X35 N35
  refine own_go (T' := T35) (f' := (mkF m 10 #[oR b9] [vR b35a])) (fun _ k => st35.trans k) ?_
  refine own_ret X35 (v := some (.ref b35a)) (oN Br) Bs (fun fs hr => own_retA X35 hx Br rfl rfl (hb hby d9_10) hr) ?_ (by decide) (by decide)
  unfold Q9a9
  rw [eK35]
  exact ⟨b35a, k35b, rfl, N35, KK35, n_b35a, sz_b35a, g35_0, g35_1, g35_2, g35_3, g35_4⟩
theorem pd3 : parseMethodDescriptor "()[Ljava/lang/Object;" = some ⟨[], some (.array (.object "java/lang/Object"))⟩ := by decide +kernel
def own_t8 (pc : Nat) : Option (Instr × Nat) := bif Nat.ble pc 10 then (bif Nat.ble pc 2 then (bif Nat.ble pc 0 then (bif Nat.beq pc 0 then some (.iload_n 3, 1) else none) else (bif Nat.ble pc 1 then (bif Nat.beq pc 1 then some (.aload_n 2, 1) else none) else (bif Nat.beq pc 2 then some (.arraylength, 1) else none))) else (bif Nat.ble pc 3 then (bif Nat.beq pc 3 then some (.if_icmp .ne 8, 3) else none) else (bif Nat.ble pc 6 then (bif Nat.beq pc 6 then some (.aload_n 0, 1) else none) else (bif Nat.beq pc 10 then some (.astore_n 2, 1) else none)))) else (bif Nat.ble pc 13 then (bif Nat.ble pc 11 then (bif Nat.beq pc 11 then some (.aload_n 2, 1) else none) else (bif Nat.ble pc 12 then (bif Nat.beq pc 12 then some (.iload_n 3, 1) else none) else (bif Nat.beq pc 13 then some (.aload_n 1, 1) else none))) else (bif Nat.ble pc 16 then (bif Nat.ble pc 15 then (bif Nat.beq pc 15 then some (.aload_n 0, 1) else none) else (bif Nat.beq pc 16 then some (.iload_n 3, 1) else none)) else (bif Nat.ble pc 17 then (bif Nat.beq pc 17 then some (.iconst 1, 1) else none) else (bif Nat.beq pc 18 then some (.iadd, 1) else none))))
theorem own_ok8 : ∀ pc q, own_fetch 23 own_t8 pc = some q → decode jdk_38_method_24_code pc = .ok q := own_tab (by decide +kernel)
theorem d8_7 : decode jdk_38_method_24_code 7 = .ok (.invokevirtual 129, 3) := by decide +kernel
theorem d8_14 : decode jdk_38_method_24_code 14 = .ok (.aastore, 1) := by decide +kernel
theorem d8_19 : decode jdk_38_method_24_code 19 = .ok (.putfield 48, 3) := by decide +kernel
theorem d8_22 : decode jdk_38_method_24_code 22 = .ok (.return_, 1) := by decide +kernel
def Q8a8 (Z : State) (b9 : Addr) (b23 : Addr) (h0 : Heap) (n0 : Nat) (v : Option Value) (h : Heap) (L : List Loc) : Prop := ∃ (b36a : Addr) (k36b : ClassId), v = none ∧ Fr n0 L ∧ Keep h0 h [b9] ∧ n0 ≤ b36a ∧ h0.size ≤ b36a ∧ oF0 Z h b9 (.int (1 : Int32)) ∧ oF1 Z h b9 (.ref b36a) ∧ oF2 Z h b9 (.int (1 : Int32)) ∧ Arv Z h b36a k36b (.object "java/lang/Object") (10 : Int32) [(.ref b23), .null, .null, .null, .null, .null, .null, .null, .null, .null] .null ∧ Ovr Z k36b "java/lang/Object"
set_option maxRecDepth 65536 in
set_option maxHeartbeats 40000000 in
theorem rm8a8 (l : Launch) (Z : State) (a0 : Array Value) (hw : HW a0 Z) (ws : List Jvm.Cond) (b9 : Addr) (b23 : Addr) (wd : Addr) (kd : ClassId) (h0 : Heap) (n0 : Nat) (Z0 : n0 ≤ h0.size) (PS0 : Sta Z h0 "java/util/ArrayList" "DEFAULTCAPACITY_EMPTY_ELEMENTDATA" "[Ljava/lang/Object;" (.ref wd)) (PV1 : Arv Z h0 wd kd (.object "java/lang/Object") (0 : Int32) [] .null) (PE9 : Exa Z h0 b9 "java/util/ArrayList") (PF10 : oF0 Z h0 b9 (.int (1 : Int32))) (PF11 : oF1 Z h0 b9 (.ref wd)) (PF12 : oF2 Z h0 b9 (.int (0 : Int32))) (PE16 : Exa Z h0 b23 "[I") (n_b9 : n0 ≤ b9) :
    own_Met l mn6 jdk_38_method_24_code 4 none ws (oRm 3 1 10 41) #[(.ref b9), (.ref b23), (.ref wd), (.int (0 : Int32))] Z h0 (Q8a8 Z b9 b23 h0 n0) := by
  refine own_met (own := "java/util/ArrayList") rfl (plainFor_of_name pn_6) ?_
  intro p e s m below meth c s₁ hx hby hml hZ hown hnm X0 e0 Br Bs
  have N0 := Fr.nil n0
  have tt := own_tt hx hby own_ok8
  show own_Ends p e below s _ _ _ s₁ (mkF m 0 #[oR b9, oR b23, oR wd, oI 0] [])
  refine own_mrun2 (a0 := a0) (as := [b23, b9, wd]) (kc := [0, 0, kd]) (fl := []) (cl := []) (wl := []) (ks := [2]) (na := 3) (ls := [oR 1, oR 0, oR 2, oI 0]) (st := []) (me := [(2, (.object "java/lang/Object"), 0, [])]) (pc' := 7) (ls' := [oR 1, oR 0, oR 2, oI 0]) (st' := [vR 1]) (ups := []) tt hZ hown X0 N0 e0 trivial trivial trivial (oA PV1 trivial) (Or.inl rfl) trivial rfl rfl (by decide +kernel) 5 (by decide +kernel) fun T28 h28 _ X28 N28 e28 K28 q28 M28 => ?_
  have e28 := e28.trans (q28 rfl)
  show own_Ends p e below s _ _ _ T28 (mkF m 7 #[oR b9, oR b23, oR wd, oI 0] [vR b9])
  obtain ⟨cq36, q36, q36'⟩ := PE9.cell
  obtain ⟨_, T36, Lc36, X36, hQ36, st36⟩ := own_out (X28.privateBack hx (y := mn5) hown (mvT hZ (ow64 hw)) (mvT hZ (ow65 hw)) (mvT hZ (ow67 hw)) (Cond.privateMethod_at (mvP hZ (ow66 hw) (args := #[]))) (mvT hZ (ow68 hw)) (by decide) (backOf (W := 0) (rm9a9 l Z a0 hw [] b9 wd kd h0 n0 Z0 PS0 PV1 PE9 PF10 PF11 PF12 n_b9) hZ (ow68 hw) (ow12 hw) (by decide) (by decide)) (g := (mkF m 7 #[oR b9, oR b23, oR wd, oI 0] [vR b9])) rfl (by rw [hml]; rfl) (Steps.refl _) (a := b9) (by rw [e28]; exact q36) q36' (argsL := []) (rest := []) (lenOf pd3 rfl) rfl (by show 2 * 0 + _ ≤ _; exact Nat.le_of_eq rfl) (hb hby d8_7) (fun _ _ => ⟨rfl, e28, (by decide : 0 + 1 ≤ _), (by decide : 0 + 10 ≤ _)⟩))
  obtain ⟨b36a, k36b, rfl, N36q, K36, n_b36a, sg_b36a, g36_0, g36_1, g36_2, g36_3, g36_4⟩ := hQ36
  have N36 := Fr.app N28 N36q
  have sz_b36a := oT (Keep.refl h0 [b9]).1 sg_b36a
  have eK36 : T36.heap = T36.heap := rfl
  have KK36 : Keep h0 T36.heap [b9] := Keep.trans (Keep.refl h0 [b9]) K36 (allS (Or.inl (List.mem_of_getElem? (i := 0) rfl)) all0)
  obtain ⟨_, X36, N36⟩ := own_hide X36 N36
  refine own_go (T' := T36) (f' := (mkF m 14 #[oR b9, oR b23, oR b36a, oI 0] [vR b23, vI 0, vR b36a])) (fun _ k => st36.trans (own_e X36 tt 10 4 k rfl)) ?_
  obtain ⟨T37, h37, X37, e37, W37, V37, st37⟩ := own_stR X36 hx hZ eK36 g36_3 (j := (0 : Int32)) ⟨by decide, by decide⟩ rfl rfl (fun cl Ar q => Sto.ofV Ar q g36_4 (Ins.of_exa (PE16.keep K36) (ow80 hw))) 0 rfl (Nat.le_of_ble_eq_true rfl) (g := (mkF m 14 #[oR b9, oR b23, oR b36a, oI 0] [vR b23, vI 0, vR b36a])) rfl rfl (hb hby d8_14)
  have K37 : Keep h0 h37 [b9] := KK36.wr W37 (Or.inr sz_b36a)
  have V37s : Arv Z h37 b36a k36b (.object "java/lang/Object") (10 : Int32) [(.ref b23), .null, .null, .null, .null, .null, .null, .null, .null, .null] .null := V37
  have N37 := Fr.snoc X37 N36 n_b36a
  refine own_go (T' := T37) (f' := (mkF m 19 #[oR b9, oR b23, oR b36a, oI 0] [vI 1, vR b9])) (fun _ k => st37 _ (own_e X37 tt 15 4 k rfl)) ?_
  obtain ⟨T38, h38, X38, e38, W38, st38⟩ := putF X37 hx hZ hown (host := "") (Or.inl (ow57 hw)) Via.refl e37 (g36_2.other W37 (Or.inl (oL PE9.lt sz_b36a))) ((PE9.keep K36).wr W37) (Or.inl (ow58 hw)) (ow11 hw) (ty := .int) (by decide) rfl rfl (g := (mkF m 19 #[oR b9, oR b23, oR b36a, oI 0] [vI 1, vR b9])) rfl rfl (hb hby d8_19)
  have Fw38 := Fld.same W38 (g36_2.other W37 (Or.inl (oL PE9.lt sz_b36a)))
  have K38 : Keep h0 h38 [b9] := K37.wr W38 (Or.inl (List.mem_of_getElem? (i := 0) rfl))
  have N38 := Fr.snoc X38 N37 n_b9
  refine own_go (T' := T38) (f' := (mkF m 22 #[oR b9, oR b23, oR b36a, oI 0] [])) (fun _ k => st38 _ k) ?_
  refine own_ret X38 (v := none) (fun _ => rfl) Bs (fun fs hr => X38.returnOut hx Br (hb hby d8_22) hr) ?_ (by decide) (by decide)
  unfold Q8a8
  rw [e38]
  exact ⟨b36a, k36b, rfl, N38, K38, n_b36a, sz_b36a, ((g36_0.other W37 (Or.inl (oL PE9.lt sz_b36a))).other W38 (Or.inr (sn_30_58 hw))), ((g36_1.other W37 (Or.inl (oL PE9.lt sz_b36a))).other W38 (Or.inr (sn_33_58 hw))), Fw38, (V37s.other W38 (oM PE9.lt sz_b36a)), g36_4⟩
theorem pd14 : parseMethodDescriptor "(Ljava/lang/Object;[Ljava/lang/Object;I)V" = some ⟨[(.object "java/lang/Object"), (.array (.object "java/lang/Object")), .int], none⟩ := by decide +kernel
def own_t7 (pc : Nat) : Option (Instr × Nat) := bif Nat.ble pc 10 then (bif Nat.ble pc 2 then (bif Nat.ble pc 0 then (bif Nat.beq pc 0 then some (.aload_n 0, 1) else none) else (bif Nat.ble pc 1 then (bif Nat.beq pc 1 then some (.dup, 1) else none) else (bif Nat.beq pc 2 then some (.getfield 63, 3) else none))) else (bif Nat.ble pc 5 then (bif Nat.beq pc 5 then some (.iconst 1, 1) else none) else (bif Nat.ble pc 6 then (bif Nat.beq pc 6 then some (.iadd, 1) else none) else (bif Nat.beq pc 10 then some (.aload_n 0, 1) else none)))) else (bif Nat.ble pc 13 then (bif Nat.ble pc 11 then (bif Nat.beq pc 11 then some (.aload_n 1, 1) else none) else (bif Nat.ble pc 12 then (bif Nat.beq pc 12 then some (.aload_n 0, 1) else none) else (bif Nat.beq pc 13 then some (.getfield 9, 3) else none))) else (bif Nat.ble pc 16 then (bif Nat.beq pc 16 then some (.aload_n 0, 1) else none) else (bif Nat.ble pc 17 then (bif Nat.beq pc 17 then some (.getfield 48, 3) else none) else (bif Nat.beq pc 23 then some (.iconst 1, 1) else none))))
theorem own_ok7 : ∀ pc q, own_fetch 25 own_t7 pc = some q → decode jdk_38_method_25_code pc = .ok q := own_tab (by decide +kernel)
theorem d7_2 : decode jdk_38_method_25_code 2 = .ok (.getfield 63, 3) := by decide +kernel
theorem d7_7 : decode jdk_38_method_25_code 7 = .ok (.putfield 63, 3) := by decide +kernel
theorem d7_20 : decode jdk_38_method_25_code 20 = .ok (.invokevirtual 131, 3) := by decide +kernel
theorem d7_24 : decode jdk_38_method_25_code 24 = .ok (.ireturn, 1) := by decide +kernel
def Q7a7 (Z : State) (b9 : Addr) (b23 : Addr) (h0 : Heap) (n0 : Nat) (v : Option Value) (h : Heap) (L : List Loc) : Prop := ∃ (b39a : Addr) (k39b : ClassId), v = some (.int (1 : Int32)) ∧ Fr n0 L ∧ Keep h0 h [b9] ∧ n0 ≤ b39a ∧ h0.size ≤ b39a ∧ oF0 Z h b9 (.int (1 : Int32)) ∧ oF1 Z h b9 (.ref b39a) ∧ oF2 Z h b9 (.int (1 : Int32)) ∧ Arv Z h b39a k39b (.object "java/lang/Object") (10 : Int32) [(.ref b23), .null, .null, .null, .null, .null, .null, .null, .null, .null] .null ∧ Ovr Z k39b "java/lang/Object"
set_option maxRecDepth 65536 in
set_option maxHeartbeats 40000000 in
theorem rm7a7 (l : Launch) (Z : State) (a0 : Array Value) (hw : HW a0 Z) (ws : List Jvm.Cond) (b9 : Addr) (b23 : Addr) (wd : Addr) (kd : ClassId) (h0 : Heap) (n0 : Nat) (Z0 : n0 ≤ h0.size) (PS0 : Sta Z h0 "java/util/ArrayList" "DEFAULTCAPACITY_EMPTY_ELEMENTDATA" "[Ljava/lang/Object;" (.ref wd)) (PV1 : Arv Z h0 wd kd (.object "java/lang/Object") (0 : Int32) [] .null) (PE9 : Exa Z h0 b9 "java/util/ArrayList") (PF10 : oF0 Z h0 b9 (.int (0 : Int32))) (PF11 : oF1 Z h0 b9 (.ref wd)) (PF12 : oF2 Z h0 b9 (.int (0 : Int32))) (PE16 : Exa Z h0 b23 "[I") (ne_wd_b9 : wd ≠ b9) (n_b9 : n0 ≤ b9) :
    own_Met l mn7 jdk_38_method_25_code 2 (some .boolean) ws (oRm 4 1 10 56) #[(.ref b9), (.ref b23)] Z h0 (Q7a7 Z b9 b23 h0 n0) := by
  refine own_met (own := "java/util/ArrayList") rfl (plainFor_of_name pn_6) ?_
  intro p e s m below meth c s₁ hx hby hml hZ hown hnm X0 e0 Br Bs
  have N0 := Fr.nil n0
  have tt := own_tt hx hby own_ok7
  show own_Ends p e below s _ _ _ s₁ (mkF m 0 #[oR b9, oR b23] [])
  refine own_go (T' := s₁) (f' := (mkF m 2 #[oR b9, oR b23] [vR b9, vR b9])) (fun _ k => own_e X0 tt 0 2 k rfl) ?_
  obtain ⟨T25, X25, e25, st25⟩ := getF X0 hx hZ hown (host := "") (Or.inl (ow55 hw)) (Via.of (ow56 hw)) e0 PF10 (g := (mkF m 2 #[oR b9, oR b23] [vR b9, vR b9])) rfl rfl (hb hby d7_2)
  refine own_go (T' := T25) (f' := (mkF m 7 #[oR b9, oR b23] [vI 1, vR b9])) (fun _ k => st25 _ (own_e X25 tt 5 2 k rfl)) ?_
  obtain ⟨T26, h26, X26, e26, W26, st26⟩ := putF X25 hx hZ hown (host := "") (Or.inl (ow55 hw)) (Via.of (ow56 hw)) e25 PF10 PE9 (Or.inl (ow30 hw)) (ow11 hw) (ty := .int) (by decide) rfl rfl (g := (mkF m 7 #[oR b9, oR b23] [vI 1, vR b9])) rfl rfl (hb hby d7_7)
  have Fw26 := Fld.same W26 PF10
  have K26 : Keep h0 h26 [b9] := (Keep.refl h0 [b9]).wr W26 (Or.inl (List.mem_of_getElem? (i := 0) rfl))
  have N26 := Fr.snoc X26 N0 n_b9
  refine own_go (T' := T26) (f' := (mkF m 10 #[oR b9, oR b23] [])) (fun _ k => st26 _ k) ?_
  refine own_mrun2 (a0 := a0) (as := [b23, b9, wd]) (kc := [0, 0, 0]) (fl := [fE7_9 1 (vR 2), fE7_48 1 (vI 0)]) (cl := []) (wl := []) (ks := []) (na := 3) (ls := [oR 1, oR 0]) (st := []) (me := []) (pc' := 20) (ls' := [oR 1, oR 0]) (st' := [vI 0, vR 2, vR 0, vR 1]) (ups := []) tt hZ hown X26 N26 e26 (oA (ow32 hw) (oA (ow57 hw) trivial)) trivial (oA (PF11.other W26 (Or.inr (sn_33_30 hw))) (oA (PF12.other W26 (Or.inr (sn_58_30 hw))) trivial)) trivial (Or.inl rfl) trivial rfl rfl (by decide +kernel) 6 (by decide +kernel) fun T27 h27 _ X27 N27 e27 K27 q27 M27 => ?_
  have e27 := e27.trans (q27 rfl)
  show own_Ends p e below s _ _ _ T27 (mkF m 20 #[oR b9, oR b23] [vI 0, vR wd, vR b23, vR b9])
  obtain ⟨cq39, q39, q39'⟩ := (PE9.wr W26).cell
  obtain ⟨_, T39, Lc39, X39, hQ39, st39⟩ := own_out (X27.privateBack hx (y := mn6) hown (mvT hZ (ow59 hw)) (mvT hZ (ow60 hw)) (mvT hZ (ow62 hw)) (Cond.privateMethod_at (mvP hZ (ow61 hw) (args := #[]))) (mvT hZ (ow63 hw)) (by decide) (backOf (W := 0) (rm8a8 l Z a0 hw [] b9 b23 wd kd h26 n0 (oT Z0 (Keep.of_wr W26).1) (PS0.wr W26) (PV1.other W26 ne_wd_b9) (PE9.wr W26) Fw26 (PF11.other W26 (Or.inr (sn_33_30 hw))) (PF12.other W26 (Or.inr (sn_58_30 hw))) (PE16.wr W26) n_b9) hZ (ow63 hw) (ow12 hw) (by decide) (by decide)) (g := (mkF m 20 #[oR b9, oR b23] [vI 0, vR wd, vR b23, vR b9])) rfl (by rw [hml]; rfl) (Steps.refl _) (a := b9) (by rw [e27]; exact q39) q39' (argsL := [(.ref b23), (.ref wd), (.int (0 : Int32))]) (rest := []) (lenOf pd14 rfl) rfl (by show 2 * 0 + _ ≤ _; exact Nat.le_of_eq rfl) (hb hby d7_20) (fun _ _ => ⟨rfl, e27, (by decide : 0 + 1 ≤ _), (by decide : 0 + 10 ≤ _)⟩))
  obtain ⟨b39a, k39b, rfl, N39q, K39, n_b39a, sg_b39a, g39_0, g39_1, g39_2, g39_3, g39_4⟩ := hQ39
  have N39 := Fr.app N27 N39q
  have sz_b39a := oT K26.1 sg_b39a
  have eK39 : T39.heap = T39.heap := rfl
  have KK39 : Keep h0 T39.heap [b9] := Keep.trans K26 K39 (allS (Or.inl (List.mem_of_getElem? (i := 0) rfl)) all0)
  obtain ⟨_, X39, N39⟩ := own_hide X39 N39
  refine own_go (T' := T39) (f' := (mkF m 24 #[oR b9, oR b23] [vI 1])) (fun _ k => st39.trans (own_e X39 tt 23 1 k rfl)) ?_
  refine own_ret X39 (v := some (.int (1 : Int32))) (oN Br) Bs (fun fs hr => retN X39 hx (t := .boolean) Br (by simp) (hb hby d7_24) hr) ?_ (by decide) (by decide)
  unfold Q7a7
  rw [eK39]
  exact ⟨b39a, k39b, rfl, N39, KK39, n_b39a, sz_b39a, g39_0, g39_1, g39_2, g39_3, g39_4⟩
theorem pd13 : parseMethodDescriptor "(Ljava/lang/Object;)Z" = some ⟨[(.object "java/lang/Object")], some .boolean⟩ := by decide +kernel
def own_t6 (pc : Nat) : Option (Instr × Nat) := bif Nat.ble pc 35 then (bif Nat.ble pc 24 then (bif Nat.ble pc 6 then (bif Nat.ble pc 2 then (bif Nat.ble pc 0 then (bif Nat.beq pc 0 then some (.iload 4, 2) else none) else (bif Nat.beq pc 2 then some (.iload_n 1, 1) else none)) else (bif Nat.ble pc 3 then (bif Nat.beq pc 3 then some (.if_icmp .ne 21, 3) else none) else (bif Nat.beq pc 6 then some (.aload 5, 2) else none))) else (bif Nat.ble pc 20 then (bif Nat.ble pc 8 then (bif Nat.beq pc 8 then some (.aload_n 3, 1) else none) else (bif Nat.beq pc 20 then some (.pop, 1) else none)) else (bif Nat.ble pc 21 then (bif Nat.beq pc 21 then some (.goto 45, 3) else none) else (bif Nat.beq pc 24 then some (.iload_n 2, 1) else none)))) else (bif Nat.ble pc 30 then (bif Nat.ble pc 27 then (bif Nat.ble pc 25 then (bif Nat.beq pc 25 then some (.istore 6, 2) else none) else (bif Nat.beq pc 27 then some (.iload 6, 2) else none)) else (bif Nat.ble pc 29 then (bif Nat.beq pc 29 then some (.iload_n 0, 1) else none) else (bif Nat.beq pc 30 then some (.iload_n 1, 1) else none))) else (bif Nat.ble pc 33 then (bif Nat.ble pc 31 then (bif Nat.beq pc 31 then some (.iload 4, 2) else none) else (bif Nat.beq pc 33 then some (.isub, 1) else none)) else (bif Nat.ble pc 34 then (bif Nat.beq pc 34 then some (.isub, 1) else none) else (bif Nat.beq pc 35 then some (.if_icmp .gt 31, 3) else none))))) else (bif Nat.ble pc 48 then (bif Nat.ble pc 43 then (bif Nat.ble pc 39 then (bif Nat.ble pc 38 then (bif Nat.beq pc 38 then some (.aload_n 3, 1) else none) else (bif Nat.beq pc 39 then some (.iload 4, 2) else none)) else (bif Nat.ble pc 41 then (bif Nat.beq pc 41 then some (.iload 6, 2) else none) else (bif Nat.beq pc 43 then some (.iastore, 1) else none))) else (bif Nat.ble pc 45 then (bif Nat.ble pc 44 then (bif Nat.beq pc 44 then some (.iload_n 0, 1) else none) else (bif Nat.beq pc 45 then some (.iload_n 1, 1) else none)) else (bif Nat.ble pc 46 then (bif Nat.beq pc 46 then some (.iload 6, 2) else none) else (bif Nat.beq pc 48 then some (.iconst 1, 1) else none)))) else (bif Nat.ble pc 53 then (bif Nat.ble pc 50 then (bif Nat.ble pc 49 then (bif Nat.beq pc 49 then some (.iadd, 1) else none) else (bif Nat.beq pc 50 then some (.aload_n 3, 1) else none)) else (bif Nat.ble pc 51 then (bif Nat.beq pc 51 then some (.iload 4, 2) else none) else (bif Nat.beq pc 53 then some (.iconst 1, 1) else none))) else (bif Nat.ble pc 55 then (bif Nat.ble pc 54 then (bif Nat.beq pc 54 then some (.iadd, 1) else none) else (bif Nat.beq pc 55 then some (.aload 5, 2) else none)) else (bif Nat.ble pc 60 then (bif Nat.beq pc 60 then some (.iinc 6 1, 3) else none) else (bif Nat.beq pc 63 then some (.goto (-36), 3) else none)))))
theorem own_ok6 : ∀ pc q, own_fetch 67 own_t6 pc = some q → decode prog_28_method_10_code pc = .ok q := own_tab (by decide +kernel)
theorem d6_9 : decode prog_28_method_10_code 9 = .ok (.invokevirtual 88, 3) := by decide +kernel
theorem d6_12 : decode prog_28_method_10_code 12 = .ok (.checkcast 40, 3) := by decide +kernel
theorem d6_15 : decode prog_28_method_10_code 15 = .ok (.invokeinterface 92 2, 5) := by decide +kernel
theorem d6_66 : decode prog_28_method_10_code 66 = .ok (.return_, 1) := by decide +kernel
theorem pn_0 : plainName "com/example/libakin/libakin/simhash/Layout" = true := by first | (simp [plainName, overriddenIn]; done) | decide +kernel
def Q6a6 (Z : State) (b9 : Addr) (k19 : ClassId) (h0 : Heap) (n0 : Nat) (v : Option Value) (h : Heap) (L : List Loc) : Prop := ∃ (b40a : Addr) (k40b : ClassId) (b23 : Addr), v = none ∧ Fr n0 L ∧ Keep h0 h [b9] ∧ n0 ≤ b40a ∧ h0.size ≤ b40a ∧ n0 ≤ b23 ∧ h0.size ≤ b23 ∧ b23 ≠ b40a ∧ oF0 Z h b9 (.int (1 : Int32)) ∧ oF1 Z h b9 (.ref b40a) ∧ oF2 Z h b9 (.int (1 : Int32)) ∧ Arv Z h b40a k40b (.object "java/lang/Object") (10 : Int32) [(.ref b23), .null, .null, .null, .null, .null, .null, .null, .null, .null] .null ∧ Ovr Z k40b "java/lang/Object" ∧ Arv Z h b23 k19 .int (1 : Int32) [(.int (0 : Int32))] (.int (0 : Int32)) ∧ Exa Z h b23 "[I"
set_option maxRecDepth 65536 in
set_option maxHeartbeats 40000000 in
theorem rm6a6 (l : Launch) (Z : State) (a0 : Array Value) (hw : HW a0 Z) (ws : List Jvm.Cond) (b19 : Addr) (b9 : Addr) (wd : Addr) (kd : ClassId) (k19 : ClassId) (h0 : Heap) (n0 : Nat) (Z0 : n0 ≤ h0.size) (PS0 : Sta Z h0 "java/util/ArrayList" "DEFAULTCAPACITY_EMPTY_ELEMENTDATA" "[Ljava/lang/Object;" (.ref wd)) (PV1 : Arv Z h0 wd kd (.object "java/lang/Object") (0 : Int32) [] .null) (PE9 : Exa Z h0 b9 "java/util/ArrayList") (PF10 : oF0 Z h0 b9 (.int (0 : Int32))) (PF11 : oF1 Z h0 b9 (.ref wd)) (PF12 : oF2 Z h0 b9 (.int (0 : Int32))) (PV13 : Arv Z h0 b19 k19 .int (1 : Int32) [(.int (0 : Int32))] (.int (0 : Int32))) (PE14 : Exa Z h0 b19 "[I") (ne_wd_b9 : wd ≠ b9) (n_b9 : n0 ≤ b9) :
    own_Met l mn9 prog_28_method_10_code 7 none ws (oRm 5 2 11 69) #[(.int (2 : Int32)), (.int (1 : Int32)), (.int (1 : Int32)), (.ref b19), (.int (1 : Int32)), (.ref b9)] Z h0 (Q6a6 Z b9 k19 h0 n0) := by
  refine own_met (own := "com/example/libakin/libakin/simhash/Layout") rfl (plainFor_of_name pn_0) ?_
  intro p e s m below meth c s₁ hx hby hml hZ hown hnm X0 e0 Br Bs
  have N0 := Fr.nil n0
  have tt := own_tt hx hby own_ok6
  show own_Ends p e below s _ _ _ s₁ (mkF m 0 #[oI 2, oI 1, oI 1, oR b19, oI 1, oR b9, oU] [])
  refine own_go (T' := s₁) (f' := (mkF m 9 #[oI 2, oI 1, oI 1, oR b19, oI 1, oR b9, oU] [vR b19, vR b9])) (fun _ k => own_e X0 tt 0 5 k rfl) ?_
  obtain ⟨T23, h23, X23, e23, E23, A23, EA23, st23⟩ := cloneH X0 hx hZ hown (ow37 hw) (ow38 hw) (ow42 hw) (ow40 hw) (ow41 hw) (ow43 hw) e0 (hs := []) PV13 PE14 (g := (mkF m 9 #[oI 2, oI 1, oI 1, oR b19, oI 1, oR b9, oU] [vR b19, vR b9])) rfl (by rw [hml]; rfl) rfl (hb hby d6_9) (by decide) (W := 1) (cap := 1) (by show 2 * 0 + _ ≤ _; exact Nat.le_of_eq rfl) (by decide) (by decide) (by decide) (by decide)
  obtain ⟨b23, g_b23⟩ : ∃ z, z = h0.size := ⟨_, rfl⟩
  have sg_b23 : h0.size ≤ b23 := Nat.le_of_eq g_b23.symm
  rw [← g_b23] at A23 EA23 st23
  have n_b23 := oT Z0 sg_b23
  have sz_b23 := oT (Keep.refl h0 [b9]).1 sg_b23
  have K23 : Keep h0 h23 [b9] := (Keep.refl h0 [b9]).ext E23
  have V_b23 : Arv Z h23 b23 k19 .int (1 : Int32) [(.int (0 : Int32))] (.int (0 : Int32)) := A23
  refine own_go (T' := T23) (f' := (mkF m 12 #[oI 2, oI 1, oI 1, oR b19, oI 1, oR b9, oU] [vR b23, vR b9])) (fun _ k => st23 _ k) ?_
  obtain ⟨T24, X24, e24, st24⟩ := castY X23 hx hZ hown (ow44 hw) e23 (Ins.self EA23) (g := (mkF m 12 #[oI 2, oI 1, oI 1, oR b19, oI 1, oR b9, oU] [vR b23, vR b9])) rfl rfl (hb hby d6_12)
  refine own_go (T' := T24) (f' := (mkF m 15 #[oI 2, oI 1, oI 1, oR b19, oI 1, oR b9, oU] [vR b23, vR b9])) (fun _ k => st24 _ k) ?_
  obtain ⟨cq40, kq40, q40a, q40b, q40c⟩ := isOf hZ e24 (PE9.ext E23)
  obtain ⟨_, T40, Lc40, X40, hQ40, st40⟩ := own_out (X24.interfaceBack hx (xi := mn8) (y := mn7) hown (mvT hZ (ow46 hw)) (mvT hZ (ow47 hw)) (mvT hZ (ow48 hw)) (mvT hZ (ow49 hw)) (mvT hZ (ow50 hw)) (mvT hZ (ow51 hw)) (mvT hZ (ow52 hw)) (mvT hZ (ow53 hw)) (by decide) (backOf (W := 0) (rm7a7 l Z a0 hw [] b9 b23 wd kd h23 n0 (oT Z0 E23.1) (PS0.ext E23) (PV1.ext E23) (PE9.ext E23) (PF10.ext E23) (PF11.ext E23) (PF12.ext E23) EA23 ne_wd_b9 n_b9) hZ (ow54 hw) (ow12 hw) (by decide) (by decide)) q40a q40b q40c (g := (mkF m 15 #[oI 2, oI 1, oI 1, oR b19, oI 1, oR b9, oU] [vR b23, vR b9])) rfl (by rw [hml]; rfl) (Steps.refl _) (argsL := [(.ref b23)]) (rest := []) (lenOf pd13 rfl) rfl (by show 2 * 0 + _ ≤ _; exact Nat.le_of_eq rfl) (hb hby d6_15) (fun _ _ => ⟨rfl, e24, (by decide : 1 + 1 ≤ _), (by decide : 1 + 10 ≤ _)⟩))
  obtain ⟨b40a, k40b, rfl, N40q, K40, n_b40a, sg_b40a, g40_0, g40_1, g40_2, g40_3, g40_4⟩ := hQ40
  have N40 := Fr.app N0 N40q
  have sz_b40a := oT K23.1 sg_b40a
  have u41 : b23 < h23.size := V_b23.lt
  have m42 : h0.size ≤ h23.size := (oT (Nat.le_refl _) E23.1)
  have eK40 : T40.heap = T40.heap := rfl
  have KK40 : Keep h0 T40.heap [b9] := Keep.trans K23 K40 (allS (Or.inl (List.mem_of_getElem? (i := 0) rfl)) all0)
  obtain ⟨_, X40, N40⟩ := own_hide X40 N40
  refine own_go (T' := T40) (f' := (mkF m 66 #[oI 2, oI 1, oI 1, oR b19, oI 1, oR b9, oU] [])) (fun _ k => st40.trans (own_e X40 tt 20 2 k rfl)) ?_
  refine own_ret X40 (v := none) (fun _ => rfl) Bs (fun fs hr => X40.returnOut hx Br (hb hby d6_66) hr) ?_ (by decide) (by decide)
  unfold Q6a6
  rw [eK40]
  exact ⟨b40a, k40b, b23, rfl, N40, KK40, n_b40a, sz_b40a, n_b23, sz_b23, (oL u41 sg_b40a), g40_0, g40_1, g40_2, g40_3, g40_4, (V_b23.keep K40 (ninS (oM PE9.lt sz_b23) nin0)), (EA23.keep K40)⟩
theorem pd9 : parseMethodDescriptor "(III[IILjava/util/List;)V" = some ⟨[.int, .int, .int, (.array .int), .int, (.object "java/util/List")], none⟩ := by decide +kernel
def Q8a14 (Z : State) (b9 : Addr) (b45 : Addr) (b43a : Addr) (k43b : ClassId) (b43c : Addr) (h0 : Heap) (n0 : Nat) (v : Option Value) (h : Heap) (L : List Loc) : Prop := v = none ∧ Fr n0 L ∧ Keep h0 h [b43a, b9] ∧ Arv Z h b43a k43b (.object "java/lang/Object") (10 : Int32) [(.ref b43c), (.ref b45), .null, .null, .null, .null, .null, .null, .null, .null] .null ∧ oF0 Z h b9 (.int (2 : Int32)) ∧ oF1 Z h b9 (.ref b43a) ∧ oF2 Z h b9 (.int (2 : Int32))
set_option maxRecDepth 65536 in
set_option maxHeartbeats 40000000 in
theorem rm8a14 (l : Launch) (Z : State) (a0 : Array Value) (hw : HW a0 Z) (ws : List Jvm.Cond) (b9 : Addr) (b45 : Addr) (b43a : Addr) (k43b : ClassId) (b43c : Addr) (h0 : Heap) (n0 : Nat) (Z0 : n0 ≤ h0.size) (PE9 : Exa Z h0 b9 "java/util/ArrayList") (PF10 : oF0 Z h0 b9 (.int (2 : Int32))) (PF11 : oF1 Z h0 b9 (.ref b43a)) (PF12 : oF2 Z h0 b9 (.int (1 : Int32))) (PV15 : Arv Z h0 b43a k43b (.object "java/lang/Object") (10 : Int32) [(.ref b43c), .null, .null, .null, .null, .null, .null, .null, .null, .null] .null) (PE19 : Exa Z h0 b45 "[I") (ov_b43a : Ovr Z k43b "java/lang/Object") (ne_b9_b43a : b9 ≠ b43a) (ne_b43a_b9 : b43a ≠ b9) (n_b9 : n0 ≤ b9) (n_b43a : n0 ≤ b43a) :
    own_Met l mn6 jdk_38_method_24_code 4 none ws (oRm 0 0 0 0) #[(.ref b9), (.ref b45), (.ref b43a), (.int (1 : Int32))] Z h0 (Q8a14 Z b9 b45 b43a k43b b43c h0 n0) := by
  refine own_met (own := "java/util/ArrayList") rfl (plainFor_of_name pn_6) ?_
  intro p e s m below meth c s₁ hx hby hml hZ hown hnm X0 e0 Br Bs
  have N0 := Fr.nil n0
  have tt := own_tt hx hby own_ok8
  show own_Ends p e below s _ _ _ s₁ (mkF m 0 #[oR b9, oR b45, oR b43a, oI 1] [])
  refine own_mrun2 (a0 := a0) (as := [b43a, b43c, b45, b9]) (kc := [k43b, 0, 0, 0]) (fl := []) (cl := []) (wl := []) (ks := [0]) (na := 4) (ls := [oR 3, oR 2, oR 0, oI 1]) (st := []) (me := [(0, (.object "java/lang/Object"), 10, [vR 1, .null, .null, .null, .null, .null, .null, .null, .null, .null])]) (pc' := 14) (ls' := [oR 3, oR 2, oR 0, oI 1]) (st' := [vR 2, vI 1, vR 0]) (ups := []) tt hZ hown X0 N0 e0 trivial trivial trivial (oA PV15 trivial) (Or.inl rfl) trivial rfl rfl (by decide +kernel) 7 (by decide +kernel) fun T50 h50 _ X50 N50 e50 K50 q50 M50 => ?_
  have e50 := e50.trans (q50 rfl)
  show own_Ends p e below s _ _ _ T50 (mkF m 14 #[oR b9, oR b45, oR b43a, oI 1] [vR b45, vI 1, vR b43a])
  obtain ⟨T51, h51, X51, e51, W51, V51, st51⟩ := own_stR X50 hx hZ e50 PV15 (j := (1 : Int32)) ⟨by decide, by decide⟩ rfl rfl (fun cl Ar q => Sto.ofV Ar q ov_b43a (Ins.of_exa PE19 (ow80 hw))) 1 rfl (Nat.le_of_ble_eq_true rfl) (g := (mkF m 14 #[oR b9, oR b45, oR b43a, oI 1] [vR b45, vI 1, vR b43a])) rfl rfl (hb hby d8_14)
  have K51 : Keep h0 h51 [b43a, b9] := (Keep.refl h0 [b43a, b9]).wr W51 (Or.inl (List.mem_of_getElem? (i := 0) rfl))
  have V51s : Arv Z h51 b43a k43b (.object "java/lang/Object") (10 : Int32) [(.ref b43c), (.ref b45), .null, .null, .null, .null, .null, .null, .null, .null] .null := V51
  have N51 := Fr.snoc X51 N50 n_b43a
  refine own_go (T' := T51) (f' := (mkF m 19 #[oR b9, oR b45, oR b43a, oI 1] [vI 2, vR b9])) (fun _ k => st51 _ (own_e X51 tt 15 4 k rfl)) ?_
  obtain ⟨T52, h52, X52, e52, W52, st52⟩ := putF X51 hx hZ hown (host := "") (Or.inl (ow57 hw)) Via.refl e51 (PF12.other W51 (Or.inl ne_b9_b43a)) (PE9.wr W51) (Or.inl (ow58 hw)) (ow11 hw) (ty := .int) (by decide) rfl rfl (g := (mkF m 19 #[oR b9, oR b45, oR b43a, oI 1] [vI 2, vR b9])) rfl rfl (hb hby d8_19)
  have Fw52 := Fld.same W52 (PF12.other W51 (Or.inl ne_b9_b43a))
  have K52 : Keep h0 h52 [b43a, b9] := K51.wr W52 (Or.inl (List.mem_of_getElem? (i := 1) rfl))
  have N52 := Fr.snoc X52 N51 n_b9
  refine own_go (T' := T52) (f' := (mkF m 22 #[oR b9, oR b45, oR b43a, oI 1] [])) (fun _ k => st52 _ k) ?_
  refine own_ret X52 (v := none) (fun _ => rfl) Bs (fun fs hr => X52.returnOut hx Br (hb hby d8_22) hr) ?_ (by decide) (by decide)
  unfold Q8a14
  rw [e52]
  exact ⟨rfl, N52, K52, (V51s.other W52 ne_b43a_b9), ((PF10.other W51 (Or.inl ne_b9_b43a)).other W52 (Or.inr (sn_30_58 hw))), ((PF11.other W51 (Or.inl ne_b9_b43a)).other W52 (Or.inr (sn_33_58 hw))), Fw52⟩
def Q7a13 (Z : State) (b9 : Addr) (b45 : Addr) (b43a : Addr) (k43b : ClassId) (b43c : Addr) (h0 : Heap) (n0 : Nat) (v : Option Value) (h : Heap) (L : List Loc) : Prop := v = some (.int (1 : Int32)) ∧ Fr n0 L ∧ Keep h0 h [b9, b43a] ∧ oF0 Z h b9 (.int (2 : Int32)) ∧ oF1 Z h b9 (.ref b43a) ∧ oF2 Z h b9 (.int (2 : Int32)) ∧ Arv Z h b43a k43b (.object "java/lang/Object") (10 : Int32) [(.ref b43c), (.ref b45), .null, .null, .null, .null, .null, .null, .null, .null] .null
set_option maxRecDepth 65536 in
set_option maxHeartbeats 40000000 in
theorem rm7a13 (l : Launch) (Z : State) (a0 : Array Value) (hw : HW a0 Z) (ws : List Jvm.Cond) (b9 : Addr) (b45 : Addr) (b43a : Addr) (k43b : ClassId) (b43c : Addr) (h0 : Heap) (n0 : Nat) (Z0 : n0 ≤ h0.size) (PE9 : Exa Z h0 b9 "java/util/ArrayList") (PF10 : oF0 Z h0 b9 (.int (1 : Int32))) (PF11 : oF1 Z h0 b9 (.ref b43a)) (PF12 : oF2 Z h0 b9 (.int (1 : Int32))) (PV15 : Arv Z h0 b43a k43b (.object "java/lang/Object") (10 : Int32) [(.ref b43c), .null, .null, .null, .null, .null, .null, .null, .null, .null] .null) (PE19 : Exa Z h0 b45 "[I") (ov_b43a : Ovr Z k43b "java/lang/Object") (ne_b9_b43a : b9 ≠ b43a) (ne_b43a_b9 : b43a ≠ b9) (n_b9 : n0 ≤ b9) (n_b43a : n0 ≤ b43a) :
    own_Met l mn7 jdk_38_method_25_code 2 (some .boolean) ws (oRm 1 0 0 15) #[(.ref b9), (.ref b45)] Z h0 (Q7a13 Z b9 b45 b43a k43b b43c h0 n0) := by
  refine own_met (own := "java/util/ArrayList") rfl (plainFor_of_name pn_6) ?_
  intro p e s m below meth c s₁ hx hby hml hZ hown hnm X0 e0 Br Bs
  have N0 := Fr.nil n0
  have tt := own_tt hx hby own_ok7
  show own_Ends p e below s _ _ _ s₁ (mkF m 0 #[oR b9, oR b45] [])
  refine own_go (T' := s₁) (f' := (mkF m 2 #[oR b9, oR b45] [vR b9, vR b9])) (fun _ k => own_e X0 tt 0 2 k rfl) ?_
  obtain ⟨T47, X47, e47, st47⟩ := getF X0 hx hZ hown (host := "") (Or.inl (ow55 hw)) (Via.of (ow56 hw)) e0 PF10 (g := (mkF m 2 #[oR b9, oR b45] [vR b9, vR b9])) rfl rfl (hb hby d7_2)
  refine own_go (T' := T47) (f' := (mkF m 7 #[oR b9, oR b45] [vI 2, vR b9])) (fun _ k => st47 _ (own_e X47 tt 5 2 k rfl)) ?_
  obtain ⟨T48, h48, X48, e48, W48, st48⟩ := putF X47 hx hZ hown (host := "") (Or.inl (ow55 hw)) (Via.of (ow56 hw)) e47 PF10 PE9 (Or.inl (ow30 hw)) (ow11 hw) (ty := .int) (by decide) rfl rfl (g := (mkF m 7 #[oR b9, oR b45] [vI 2, vR b9])) rfl rfl (hb hby d7_7)
  have Fw48 := Fld.same W48 PF10
  have K48 : Keep h0 h48 [b9, b43a] := (Keep.refl h0 [b9, b43a]).wr W48 (Or.inl (List.mem_of_getElem? (i := 0) rfl))
  have N48 := Fr.snoc X48 N0 n_b9
  refine own_go (T' := T48) (f' := (mkF m 10 #[oR b9, oR b45] [])) (fun _ k => st48 _ k) ?_
  refine own_mrun2 (a0 := a0) (as := [b43a, b45, b9]) (kc := [0, 0, 0]) (fl := [fE7_9 2 (vR 0), fE7_48 2 (vI 1)]) (cl := []) (wl := []) (ks := []) (na := 3) (ls := [oR 2, oR 1]) (st := []) (me := []) (pc' := 20) (ls' := [oR 2, oR 1]) (st' := [vI 1, vR 0, vR 1, vR 2]) (ups := []) tt hZ hown X48 N48 e48 (oA (ow32 hw) (oA (ow57 hw) trivial)) trivial (oA (PF11.other W48 (Or.inr (sn_33_30 hw))) (oA (PF12.other W48 (Or.inr (sn_58_30 hw))) trivial)) trivial (Or.inl rfl) trivial rfl rfl (by decide +kernel) 6 (by decide +kernel) fun T49 h49 _ X49 N49 e49 K49 q49 M49 => ?_
  have e49 := e49.trans (q49 rfl)
  show own_Ends p e below s _ _ _ T49 (mkF m 20 #[oR b9, oR b45] [vI 1, vR b43a, vR b45, vR b9])
  obtain ⟨cq53, q53, q53'⟩ := (PE9.wr W48).cell
  obtain ⟨_, T53, Lc53, X53, hQ53, st53⟩ := own_out (X49.privateBack hx (y := mn6) hown (mvT hZ (ow59 hw)) (mvT hZ (ow60 hw)) (mvT hZ (ow62 hw)) (Cond.privateMethod_at (mvP hZ (ow61 hw) (args := #[]))) (mvT hZ (ow63 hw)) (by decide) (backOf (W := 0) (rm8a14 l Z a0 hw [] b9 b45 b43a k43b b43c h48 n0 (oT Z0 (Keep.of_wr W48).1) (PE9.wr W48) Fw48 (PF11.other W48 (Or.inr (sn_33_30 hw))) (PF12.other W48 (Or.inr (sn_58_30 hw))) (PV15.other W48 ne_b43a_b9) (PE19.wr W48) ov_b43a ne_b9_b43a ne_b43a_b9 n_b9 n_b43a) hZ (ow63 hw) (ow12 hw) (by decide) (by decide)) (g := (mkF m 20 #[oR b9, oR b45] [vI 1, vR b43a, vR b45, vR b9])) rfl (by rw [hml]; rfl) (Steps.refl _) (a := b9) (by rw [e49]; exact q53) q53' (argsL := [(.ref b45), (.ref b43a), (.int (1 : Int32))]) (rest := []) (lenOf pd14 rfl) rfl (by show 2 * 0 + _ ≤ _; exact Nat.le_of_eq rfl) (hb hby d7_20) (fun _ _ => ⟨rfl, e49, (by decide : 0 + 0 ≤ _), (by decide : 0 + 0 ≤ _)⟩))
  obtain ⟨rfl, N53q, K53, g53_0, g53_1, g53_2, g53_3⟩ := hQ53
  have N53 := Fr.app N49 N53q
  have eK53 : T53.heap = T53.heap := rfl
  have KK53 : Keep h0 T53.heap [b9, b43a] := Keep.trans K48 K53 (allS (Or.inl (List.mem_of_getElem? (i := 1) rfl)) (allS (Or.inl (List.mem_of_getElem? (i := 0) rfl)) all0))
  obtain ⟨_, X53, N53⟩ := own_hide X53 N53
  refine own_go (T' := T53) (f' := (mkF m 24 #[oR b9, oR b45] [vI 1])) (fun _ k => st53.trans (own_e X53 tt 23 1 k rfl)) ?_
  refine own_ret X53 (v := some (.int (1 : Int32))) (oN Br) Bs (fun fs hr => retN X53 hx (t := .boolean) Br (by simp) (hb hby d7_24) hr) ?_ (by decide) (by decide)
  unfold Q7a13
  rw [eK53]
  exact ⟨rfl, N53, KK53, g53_1, g53_2, g53_3, g53_0⟩
def Q6a12 (Z : State) (b9 : Addr) (b43a : Addr) (k19 : ClassId) (k43b : ClassId) (b43c : Addr) (h0 : Heap) (n0 : Nat) (v : Option Value) (h : Heap) (L : List Loc) : Prop := ∃ (b45 : Addr), v = none ∧ Fr n0 L ∧ Keep h0 h [b43a, b9] ∧ n0 ≤ b45 ∧ h0.size ≤ b45 ∧ Arv Z h b43a k43b (.object "java/lang/Object") (10 : Int32) [(.ref b43c), (.ref b45), .null, .null, .null, .null, .null, .null, .null, .null] .null ∧ oF0 Z h b9 (.int (2 : Int32)) ∧ oF1 Z h b9 (.ref b43a) ∧ oF2 Z h b9 (.int (2 : Int32)) ∧ Arv Z h b45 k19 .int (1 : Int32) [(.int (1 : Int32))] (.int (0 : Int32)) ∧ Exa Z h b45 "[I"
set_option maxRecDepth 65536 in
set_option maxHeartbeats 40000000 in
theorem rm6a12 (l : Launch) (Z : State) (a0 : Array Value) (hw : HW a0 Z) (ws : List Jvm.Cond) (b19 : Addr) (b9 : Addr) (b43a : Addr) (k19 : ClassId) (k43b : ClassId) (b43c : Addr) (h0 : Heap) (n0 : Nat) (Z0 : n0 ≤ h0.size) (PE9 : Exa Z h0 b9 "java/util/ArrayList") (PF10 : oF0 Z h0 b9 (.int (1 : Int32))) (PF11 : oF1 Z h0 b9 (.ref b43a)) (PF12 : oF2 Z h0 b9 (.int (1 : Int32))) (PV13 : Arv Z h0 b19 k19 .int (1 : Int32) [(.int (1 : Int32))] (.int (0 : Int32))) (PE14 : Exa Z h0 b19 "[I") (PV15 : Arv Z h0 b43a k43b (.object "java/lang/Object") (10 : Int32) [(.ref b43c), .null, .null, .null, .null, .null, .null, .null, .null, .null] .null) (ov_b43a : Ovr Z k43b "java/lang/Object") (ne_b9_b43a : b9 ≠ b43a) (ne_b43a_b9 : b43a ≠ b9) (n_b9 : n0 ≤ b9) (n_b43a : n0 ≤ b43a) :
    own_Met l mn9 prog_28_method_10_code 7 none ws (oRm 2 1 1 28) #[(.int (2 : Int32)), (.int (1 : Int32)), (.int (2 : Int32)), (.ref b19), (.int (1 : Int32)), (.ref b9)] Z h0 (Q6a12 Z b9 b43a k19 k43b b43c h0 n0) := by
  refine own_met (own := "com/example/libakin/libakin/simhash/Layout") rfl (plainFor_of_name pn_0) ?_
  intro p e s m below meth c s₁ hx hby hml hZ hown hnm X0 e0 Br Bs
  have N0 := Fr.nil n0
  have tt := own_tt hx hby own_ok6
  show own_Ends p e below s _ _ _ s₁ (mkF m 0 #[oI 2, oI 1, oI 2, oR b19, oI 1, oR b9, oU] [])
  refine own_go (T' := s₁) (f' := (mkF m 9 #[oI 2, oI 1, oI 2, oR b19, oI 1, oR b9, oU] [vR b19, vR b9])) (fun _ k => own_e X0 tt 0 5 k rfl) ?_
  obtain ⟨T45, h45, X45, e45, E45, A45, EA45, st45⟩ := cloneH X0 hx hZ hown (ow37 hw) (ow38 hw) (ow42 hw) (ow40 hw) (ow41 hw) (ow43 hw) e0 (hs := []) PV13 PE14 (g := (mkF m 9 #[oI 2, oI 1, oI 2, oR b19, oI 1, oR b9, oU] [vR b19, vR b9])) rfl (by rw [hml]; rfl) rfl (hb hby d6_9) (by decide) (W := 1) (cap := 1) (by show 2 * 0 + _ ≤ _; exact Nat.le_of_eq rfl) (by decide) (by decide) (by decide) (by decide)
  obtain ⟨b45, g_b45⟩ : ∃ z, z = h0.size := ⟨_, rfl⟩
  have sg_b45 : h0.size ≤ b45 := Nat.le_of_eq g_b45.symm
  rw [← g_b45] at A45 EA45 st45
  have n_b45 := oT Z0 sg_b45
  have sz_b45 := oT (Keep.refl h0 [b43a, b9]).1 sg_b45
  have K45 : Keep h0 h45 [b43a, b9] := (Keep.refl h0 [b43a, b9]).ext E45
  have V_b45 : Arv Z h45 b45 k19 .int (1 : Int32) [(.int (1 : Int32))] (.int (0 : Int32)) := A45
  refine own_go (T' := T45) (f' := (mkF m 12 #[oI 2, oI 1, oI 2, oR b19, oI 1, oR b9, oU] [vR b45, vR b9])) (fun _ k => st45 _ k) ?_
  obtain ⟨T46, X46, e46, st46⟩ := castY X45 hx hZ hown (ow44 hw) e45 (Ins.self EA45) (g := (mkF m 12 #[oI 2, oI 1, oI 2, oR b19, oI 1, oR b9, oU] [vR b45, vR b9])) rfl rfl (hb hby d6_12)
  refine own_go (T' := T46) (f' := (mkF m 15 #[oI 2, oI 1, oI 2, oR b19, oI 1, oR b9, oU] [vR b45, vR b9])) (fun _ k => st46 _ k) ?_
  obtain ⟨cq54, kq54, q54a, q54b, q54c⟩ := isOf hZ e46 (PE9.ext E45)
  obtain ⟨_, T54, Lc54, X54, hQ54, st54⟩ := own_out (X46.interfaceBack hx (xi := mn8) (y := mn7) hown (mvT hZ (ow46 hw)) (mvT hZ (ow47 hw)) (mvT hZ (ow48 hw)) (mvT hZ (ow49 hw)) (mvT hZ (ow50 hw)) (mvT hZ (ow51 hw)) (mvT hZ (ow52 hw)) (mvT hZ (ow53 hw)) (by decide) (backOf (W := 0) (rm7a13 l Z a0 hw [] b9 b45 b43a k43b b43c h45 n0 (oT Z0 E45.1) (PE9.ext E45) (PF10.ext E45) (PF11.ext E45) (PF12.ext E45) (PV15.ext E45) EA45 ov_b43a ne_b9_b43a ne_b43a_b9 n_b9 n_b43a) hZ (ow54 hw) (ow12 hw) (by decide) (by decide)) q54a q54b q54c (g := (mkF m 15 #[oI 2, oI 1, oI 2, oR b19, oI 1, oR b9, oU] [vR b45, vR b9])) rfl (by rw [hml]; rfl) (Steps.refl _) (argsL := [(.ref b45)]) (rest := []) (lenOf pd13 rfl) rfl (by show 2 * 0 + _ ≤ _; exact Nat.le_of_eq rfl) (hb hby d6_15) (fun _ _ => ⟨rfl, e46, (by decide : 1 + 0 ≤ _), (by decide : 1 + 0 ≤ _)⟩))
  obtain ⟨rfl, N54q, K54, g54_0, g54_1, g54_2, g54_3⟩ := hQ54
  have N54 := Fr.app N0 N54q
  have eK54 : T54.heap = T54.heap := rfl
  have KK54 : Keep h0 T54.heap [b43a, b9] := Keep.trans K45 K54 (allS (Or.inl (List.mem_of_getElem? (i := 1) rfl)) (allS (Or.inl (List.mem_of_getElem? (i := 0) rfl)) all0))
  obtain ⟨_, X54, N54⟩ := own_hide X54 N54
  refine own_go (T' := T54) (f' := (mkF m 66 #[oI 2, oI 1, oI 2, oR b19, oI 1, oR b9, oU] [])) (fun _ k => st54.trans (own_e X54 tt 20 2 k rfl)) ?_
  refine own_ret X54 (v := none) (fun _ => rfl) Bs (fun fs hr => X54.returnOut hx Br (hb hby d6_66) hr) ?_ (by decide) (by decide)
  unfold Q6a12
  rw [eK54]
  exact ⟨b45, rfl, N54, KK54, n_b45, sz_b45, g54_3, g54_0, g54_1, g54_2, (V_b45.keep K54 (ninS (oM PE9.lt sz_b45) (ninS (oM PV15.lt sz_b45) nin0))), (EA45.keep K54)⟩
theorem d6_43 : decode prog_28_method_10_code 43 = .ok (.iastore, 1) := by decide +kernel
theorem d6_57 : decode prog_28_method_10_code 57 = .ok (.invokestatic 12, 3) := by decide +kernel
def Q6a5 (Z : State) (b19 : Addr) (b9 : Addr) (k19 : ClassId) (h0 : Heap) (n0 : Nat) (v : Option Value) (h : Heap) (L : List Loc) : Prop := ∃ (b43a : Addr) (k43b : ClassId) (b43c : Addr) (b55a : Addr), v = none ∧ Fr n0 L ∧ Keep h0 h [b19, b9] ∧ n0 ≤ b43a ∧ h0.size ≤ b43a ∧ n0 ≤ b43c ∧ h0.size ≤ b43c ∧ n0 ≤ b55a ∧ h0.size ≤ b55a ∧ b43c ≠ b43a ∧ b55a ≠ b43a ∧ b55a ≠ b43c ∧ Arv Z h b19 k19 .int (1 : Int32) [(.int (1 : Int32))] (.int (0 : Int32)) ∧ oF0 Z h b9 (.int (2 : Int32)) ∧ oF1 Z h b9 (.ref b43a) ∧ oF2 Z h b9 (.int (2 : Int32)) ∧ Arv Z h b43a k43b (.object "java/lang/Object") (10 : Int32) [(.ref b43c), (.ref b55a), .null, .null, .null, .null, .null, .null, .null, .null] .null ∧ Ovr Z k43b "java/lang/Object" ∧ Arv Z h b43c k19 .int (1 : Int32) [(.int (0 : Int32))] (.int (0 : Int32)) ∧ Exa Z h b43c "[I" ∧ Arv Z h b55a k19 .int (1 : Int32) [(.int (1 : Int32))] (.int (0 : Int32)) ∧ Exa Z h b55a "[I"
set_option maxRecDepth 65536 in
set_option maxHeartbeats 40000000 in
theorem rm6a5 (l : Launch) (Z : State) (a0 : Array Value) (hw : HW a0 Z) (ws : List Jvm.Cond) (b19 : Addr) (b9 : Addr) (wd : Addr) (kd : ClassId) (k19 : ClassId) (h0 : Heap) (n0 : Nat) (Z0 : n0 ≤ h0.size) (PS0 : Sta Z h0 "java/util/ArrayList" "DEFAULTCAPACITY_EMPTY_ELEMENTDATA" "[Ljava/lang/Object;" (.ref wd)) (PV1 : Arv Z h0 wd kd (.object "java/lang/Object") (0 : Int32) [] .null) (PE9 : Exa Z h0 b9 "java/util/ArrayList") (PF10 : oF0 Z h0 b9 (.int (0 : Int32))) (PF11 : oF1 Z h0 b9 (.ref wd)) (PF12 : oF2 Z h0 b9 (.int (0 : Int32))) (PV13 : Arv Z h0 b19 k19 .int (1 : Int32) [(.int (0 : Int32))] (.int (0 : Int32))) (PE14 : Exa Z h0 b19 "[I") (ne_wd_b9 : wd ≠ b9) (ne_wd_b19 : wd ≠ b19) (ne_b9_b19 : b9 ≠ b19) (ne_b19_b9 : b19 ≠ b9) (n_b19 : n0 ≤ b19) (n_b9 : n0 ≤ b9) :
    own_Met l mn9 prog_28_method_10_code 7 none ws (oRm 6 3 12 87) #[(.int (2 : Int32)), (.int (1 : Int32)), (.int (0 : Int32)), (.ref b19), (.int (0 : Int32)), (.ref b9)] Z h0 (Q6a5 Z b19 b9 k19 h0 n0) := by
  refine own_met (own := "com/example/libakin/libakin/simhash/Layout") rfl (plainFor_of_name pn_0) ?_
  intro p e s m below meth c s₁ hx hby hml hZ hown hnm X0 e0 Br Bs
  have N0 := Fr.nil n0
  have tt := own_tt hx hby own_ok6
  show own_Ends p e below s _ _ _ s₁ (mkF m 0 #[oI 2, oI 1, oI 0, oR b19, oI 0, oR b9, oU] [])
  refine own_go (T' := s₁) (f' := (mkF m 43 #[oI 2, oI 1, oI 0, oR b19, oI 0, oR b9, oI 0] [vI 0, vI 0, vR b19])) (fun _ k => own_e X0 tt 0 15 k rfl) ?_
  obtain ⟨T22, h22, X22, e22, W22, V22, st22⟩ := own_stI X0 hx hZ e0 PV13 (j := (0 : Int32)) ⟨by decide, by decide⟩ 0 rfl (Nat.le_of_ble_eq_true rfl) (g := (mkF m 43 #[oI 2, oI 1, oI 0, oR b19, oI 0, oR b9, oI 0] [vI 0, vI 0, vR b19])) rfl rfl (hb hby d6_43)
  have K22 : Keep h0 h22 [b19, b9] := (Keep.refl h0 [b19, b9]).wr W22 (Or.inl (List.mem_of_getElem? (i := 0) rfl))
  have V22s : Arv Z h22 b19 k19 .int (1 : Int32) [(.int (0 : Int32))] (.int (0 : Int32)) := V22
  have N22 := Fr.snoc X22 N0 n_b19
  refine own_go (T' := T22) (f' := (mkF m 57 #[oI 2, oI 1, oI 0, oR b19, oI 0, oR b9, oI 0] [vR b9, vI 1, vR b19, vI 1, vI 1, vI 2])) (fun _ k => st22 _ (own_e X22 tt 44 10 k rfl)) ?_
  obtain ⟨_, T43, Lc43, X43, hQ43, st43⟩ := own_outC (Jvm.LawKit.callS X22 hx (y := mn9) hown (mvT hZ (ow34 hw)) (mvT hZ (ow35 hw)) (mvT hZ (ow2 hw)) (mvT hZ (ow36 hw)) (by decide) (backOf (W := 0) (rm6a6 l Z a0 hw [] b19 b9 wd kd k19 h22 n0 (oT Z0 (Keep.of_wr W22).1) (PS0.wr W22) (PV1.other W22 ne_wd_b19) (PE9.wr W22) (PF10.other W22 (Or.inl ne_b9_b19)) (PF11.other W22 (Or.inl ne_b9_b19)) (PF12.other W22 (Or.inl ne_b9_b19)) V22s (PE14.wr W22) ne_wd_b9 n_b9) hZ (ow36 hw) (ow2 hw) (by decide) (by decide)) (g := (mkF m 57 #[oI 2, oI 1, oI 0, oR b19, oI 0, oR b9, oI 0] [vR b9, vI 1, vR b19, vI 1, vI 1, vI 2])) rfl (by rw [hml]; rfl) (argsL := [(.int (2 : Int32)), (.int (1 : Int32)), (.int (1 : Int32)), (.ref b19), (.int (1 : Int32)), (.ref b9)]) (rest := []) (lenOf pd9 rfl) rfl (by show 2 * 0 + _ ≤ _; exact Nat.le_of_eq rfl) (hb hby d6_57) (fun _ _ => ⟨rfl, e22, (by decide : 0 + 2 ≤ _), (by decide : 0 + 11 ≤ _)⟩))
  obtain ⟨b43a, k43b, b43c, rfl, N43q, K43, n_b43a, sg_b43a, n_b43c, sg_b43c, ne43_0, g43_0, g43_1, g43_2, g43_3, g43_4, g43_5, g43_6⟩ := hQ43
  have N43 := Fr.app N22 N43q
  have sz_b43a := oT K22.1 sg_b43a
  have sz_b43c := oT K22.1 sg_b43c
  have eK43 : T43.heap = T43.heap := rfl
  have KK43 : Keep h0 T43.heap [b19, b9] := Keep.trans K22 K43 (allS (Or.inl (List.mem_of_getElem? (i := 1) rfl)) all0)
  obtain ⟨_, X43, N43⟩ := own_hide X43 N43
  refine own_go (T' := T43) (f' := (mkF m 43 #[oI 2, oI 1, oI 0, oR b19, oI 0, oR b9, oI 1] [vI 1, vI 0, vR b19])) (fun _ k => st43 _ (own_e X43 tt 60 12 k rfl)) ?_
  obtain ⟨T44, h44, X44, e44, W44, V44, st44⟩ := own_stI X43 hx hZ eK43 (V22s.keep K43 (ninS ne_b19_b9 nin0)) (j := (0 : Int32)) ⟨by decide, by decide⟩ 0 rfl (Nat.le_of_ble_eq_true rfl) (g := (mkF m 43 #[oI 2, oI 1, oI 0, oR b19, oI 0, oR b9, oI 1] [vI 1, vI 0, vR b19])) rfl rfl (hb hby d6_43)
  have K44 : Keep h0 h44 [b19, b9] := KK43.wr W44 (Or.inl (List.mem_of_getElem? (i := 0) rfl))
  have V44s : Arv Z h44 b19 k19 .int (1 : Int32) [(.int (1 : Int32))] (.int (0 : Int32)) := V44
  have N44 := Fr.snoc X44 N43 n_b19
  refine own_go (T' := T44) (f' := (mkF m 57 #[oI 2, oI 1, oI 0, oR b19, oI 0, oR b9, oI 1] [vR b9, vI 1, vR b19, vI 2, vI 1, vI 2])) (fun _ k => st44 _ (own_e X44 tt 44 10 k rfl)) ?_
  obtain ⟨_, T55, Lc55, X55, hQ55, st55⟩ := own_outC (Jvm.LawKit.callS X44 hx (y := mn9) hown (mvT hZ (ow34 hw)) (mvT hZ (ow35 hw)) (mvT hZ (ow2 hw)) (mvT hZ (ow36 hw)) (by decide) (backOf (W := 0) (rm6a12 l Z a0 hw [] b19 b9 b43a k19 k43b b43c h44 n0 (oT (oT (oT Z0 (Keep.of_wr W22).1) K43.1) (Keep.of_wr W44).1) (((PE9.wr W22).keep K43).wr W44) (g43_0.other W44 (Or.inl ne_b9_b19)) (g43_1.other W44 (Or.inl ne_b9_b19)) (g43_2.other W44 (Or.inl ne_b9_b19)) V44s (((PE14.wr W22).keep K43).wr W44) (g43_3.other W44 (oM PV13.lt sz_b43a)) g43_4 (oL PE9.lt sz_b43a) (oM PE9.lt sz_b43a) n_b9 n_b43a) hZ (ow36 hw) (ow2 hw) (by decide) (by decide)) (g := (mkF m 57 #[oI 2, oI 1, oI 0, oR b19, oI 0, oR b9, oI 1] [vR b9, vI 1, vR b19, vI 2, vI 1, vI 2])) rfl (by rw [hml]; rfl) (argsL := [(.int (2 : Int32)), (.int (1 : Int32)), (.int (2 : Int32)), (.ref b19), (.int (1 : Int32)), (.ref b9)]) (rest := []) (lenOf pd9 rfl) rfl (by show 2 * 0 + _ ≤ _; exact Nat.le_of_eq rfl) (hb hby d6_57) (fun _ _ => ⟨rfl, e44, (by decide : 2 + 1 ≤ _), (by decide : 11 + 1 ≤ _)⟩))
  obtain ⟨b55a, rfl, N55q, K55, n_b55a, sg_b55a, g55_0, g55_1, g55_2, g55_3, g55_4, g55_5⟩ := hQ55
  have N55 := Fr.app N44 N55q
  have sz_b55a := oT K44.1 sg_b55a
  have u56 := (oW g43_3.lt (Keep.of_wr W44).1)
  have u57 := (oW g43_5.lt (Keep.of_wr W44).1)
  have m58 : h22.size ≤ h44.size := (oT (oT (Nat.le_refl _) K43.1) (Keep.of_wr W44).1)
  have eK55 : T55.heap = T55.heap := rfl
  have KK55 : Keep h0 T55.heap [b19, b9] := Keep.trans K44 K55 (allS (Or.inr sz_b43a) (allS (Or.inl (List.mem_of_getElem? (i := 1) rfl)) all0))
  obtain ⟨_, X55, N55⟩ := own_hide X55 N55
  refine own_go (T' := T55) (f' := (mkF m 66 #[oI 2, oI 1, oI 0, oR b19, oI 0, oR b9, oI 2] [])) (fun _ k => st55 _ (own_e X55 tt 60 9 k rfl)) ?_
  refine own_ret X55 (v := none) (fun _ => rfl) Bs (fun fs hr => X55.returnOut hx Br (hb hby d6_66) hr) ?_ (by decide) (by decide)
  unfold Q6a5
  rw [eK55]
  exact ⟨b43a, k43b, b43c, b55a, rfl, N55, KK55, n_b43a, sz_b43a, n_b43c, sz_b43c, n_b55a, sz_b55a, ne43_0, (oM u56 sg_b55a), (oM u57 sg_b55a), (V44s.keep K55 (ninS (oL PV13.lt sz_b43a) (ninS ne_b19_b9 nin0))), g55_1, g55_2, g55_3, g55_0, g43_4, ((g43_5.other W44 (oM PV13.lt sz_b43c)).keep K55 (ninS ne43_0 (ninS (oM PE9.lt sz_b43c) nin0))), ((g43_6.wr W44).keep K55), g55_4, g55_5⟩
def own_t12 (pc : Nat) : Option (Instr × Nat) := bif Nat.ble pc 0 then (bif Nat.beq pc 0 then some (.aload_n 0, 1) else none) else (bif Nat.beq pc 1 then some (.getfield 48, 3) else none)
theorem own_ok12 : ∀ pc q, own_fetch 5 own_t12 pc = some q → decode jdk_38_method_8_code pc = .ok q := own_tab (by decide +kernel)
theorem d12_4 : decode jdk_38_method_8_code 4 = .ok (.ireturn, 1) := by decide +kernel
def Q12a15 (Z : State)  (h0 : Heap) (n0 : Nat) (v : Option Value) (h : Heap) (L : List Loc) : Prop := v = some (.int (2 : Int32)) ∧ Fr n0 L ∧ h = h0
set_option maxRecDepth 65536 in
set_option maxHeartbeats 40000000 in
theorem rm12a15 (l : Launch) (Z : State) (a0 : Array Value) (hw : HW a0 Z) (ws : List Jvm.Cond) (b9 : Addr) (h0 : Heap) (n0 : Nat) (Z0 : n0 ≤ h0.size) (PF12 : oF2 Z h0 b9 (.int (2 : Int32))) :
    own_Met l mn10 jdk_38_method_8_code 1 (some .int) ws (oRm 0 0 0 0) #[(.ref b9)] Z h0 (Q12a15 Z  h0 n0) := by
  refine own_met (own := "java/util/ArrayList") rfl (plainFor_of_name pn_6) ?_
  intro p e s m below meth c s₁ hx hby hml hZ hown hnm X0 e0 Br Bs
  have N0 := Fr.nil n0
  have tt := own_tt hx hby own_ok12
  show own_Ends p e below s _ _ _ s₁ (mkF m 0 #[oR b9] [])
  refine own_mrun2 (a0 := a0) (as := [b9]) (kc := [0]) (fl := [fE12_48 0 (vI 2)]) (cl := []) (wl := []) (ks := []) (na := 1) (ls := [oR 0]) (st := []) (me := []) (pc' := 4) (ls' := [oR 0]) (st' := [vI 2]) (ups := []) tt hZ hown X0 N0 e0 (oA (ow57 hw) trivial) trivial (oA PF12 trivial) trivial (Or.inl rfl) trivial rfl rfl (by decide +kernel) 2 (by decide +kernel) fun T65 h65 _ X65 N65 e65 K65 q65 M65 => ?_
  have e65 := e65.trans (q65 rfl)
  show own_Ends p e below s _ _ _ T65 (mkF m 4 #[oR b9] [vI 2])
  refine own_ret X65 (v := some (.int (2 : Int32))) (oN Br) Bs (fun fs hr => retI X65 hx Br (hb hby d12_4) hr) ?_ (by decide) (by decide)
  unfold Q12a15
  exact ⟨rfl, N65, e65⟩
theorem pd0 : parseMethodDescriptor "()I" = some ⟨[], some .int⟩ := by decide +kernel
def own_t15 (pc : Nat) : Option (Instr × Nat) := bif Nat.ble pc 4 then (bif Nat.ble pc 0 then (bif Nat.beq pc 0 then some (.iload_n 0, 1) else none) else (bif Nat.ble pc 1 then (bif Nat.beq pc 1 then some (.ifCond .lt 8, 3) else none) else (bif Nat.beq pc 4 then some (.iload_n 0, 1) else none))) else (bif Nat.ble pc 5 then (bif Nat.beq pc 5 then some (.iload_n 1, 1) else none) else (bif Nat.ble pc 6 then (bif Nat.beq pc 6 then some (.if_icmp .lt 10, 3) else none) else (bif Nat.beq pc 16 then some (.iload_n 0, 1) else none)))
theorem own_ok15 : ∀ pc q, own_fetch 18 own_t15 pc = some q → decode jdk_41_method_11_code pc = .ok q := own_tab (by decide +kernel)
theorem d15_17 : decode jdk_41_method_11_code 17 = .ok (.ireturn, 1) := by decide +kernel
theorem pn_8 : plainName "jdk/internal/util/Preconditions" = true := by first | (simp [plainName, overriddenIn]; done) | decide +kernel
def Q15a18 (Z : State)  (h0 : Heap) (n0 : Nat) (v : Option Value) (h : Heap) (L : List Loc) : Prop := v = some (.int (0 : Int32)) ∧ Fr n0 L ∧ h = h0
set_option maxRecDepth 65536 in
set_option maxHeartbeats 40000000 in
theorem rm15a18 (l : Launch) (Z : State) (a0 : Array Value) (hw : HW a0 Z) (ws : List Jvm.Cond)  (h0 : Heap) (n0 : Nat) (Z0 : n0 ≤ h0.size) :
    own_Met l mn12 jdk_41_method_11_code 3 (some .int) ws (oRm 0 0 0 0) #[(.int (0 : Int32)), (.int (2 : Int32)), .null] Z h0 (Q15a18 Z  h0 n0) := by
  refine own_met (own := "jdk/internal/util/Preconditions") rfl (plainFor_of_name pn_8) ?_
  intro p e s m below meth c s₁ hx hby hml hZ hown hnm X0 e0 Br Bs
  have N0 := Fr.nil n0
  have tt := own_tt hx hby own_ok15
  show own_Ends p e below s _ _ _ s₁ (mkF m 0 #[oI 0, oI 2, .val .null] [])
  refine own_go (T' := s₁) (f' := (mkF m 17 #[oI 0, oI 2, .val .null] [vI 0])) (fun _ k => own_e X0 tt 0 6 k rfl) ?_
  refine own_ret X0 (v := some (.int (0 : Int32))) (oN Br) Bs (fun fs hr => retI X0 hx Br (hb hby d15_17) hr) ?_ (by decide) (by decide)
  unfold Q15a18
  exact ⟨rfl, N0, e0⟩
theorem pd10 : parseMethodDescriptor "(IILjava/util/function/BiFunction;)I" = some ⟨[.int, .int, (.object "java/util/function/BiFunction")], some .int⟩ := by decide +kernel
def own_t14 (pc : Nat) : Option (Instr × Nat) := bif Nat.ble pc 0 then (bif Nat.beq pc 0 then some (.iload_n 0, 1) else none) else (bif Nat.ble pc 1 then (bif Nat.beq pc 1 then some (.iload_n 1, 1) else none) else (bif Nat.beq pc 2 then some (.aconst_null, 1) else none))
theorem own_ok14 : ∀ pc q, own_fetch 7 own_t14 pc = some q → decode jdk_31_method_17_code pc = .ok q := own_tab (by decide +kernel)
theorem d14_3 : decode jdk_31_method_17_code 3 = .ok (.invokestatic 105, 3) := by decide +kernel
theorem d14_6 : decode jdk_31_method_17_code 6 = .ok (.ireturn, 1) := by decide +kernel
theorem pn_7 : plainName "java/util/Objects" = true := by first | (simp [plainName, overriddenIn]; done) | decide +kernel
def Q14a17 (Z : State)  (h0 : Heap) (n0 : Nat) (v : Option Value) (h : Heap) (L : List Loc) : Prop := v = some (.int (0 : Int32)) ∧ Fr n0 L ∧ h = h0
set_option maxRecDepth 65536 in
set_option maxHeartbeats 40000000 in
theorem rm14a17 (l : Launch) (Z : State) (a0 : Array Value) (hw : HW a0 Z) (ws : List Jvm.Cond)  (h0 : Heap) (n0 : Nat) (Z0 : n0 ≤ h0.size) :
    own_Met l mn13 jdk_31_method_17_code 2 (some .int) ws (oRm 1 0 0 14) #[(.int (0 : Int32)), (.int (2 : Int32))] Z h0 (Q14a17 Z  h0 n0) := by
  refine own_met (own := "java/util/Objects") rfl (plainFor_of_name pn_7) ?_
  intro p e s m below meth c s₁ hx hby hml hZ hown hnm X0 e0 Br Bs
  have N0 := Fr.nil n0
  have tt := own_tt hx hby own_ok14
  show own_Ends p e below s _ _ _ s₁ (mkF m 0 #[oI 0, oI 2] [])
  refine own_go (T' := s₁) (f' := (mkF m 3 #[oI 0, oI 2] [.null, vI 2, vI 0])) (fun _ k => own_e X0 tt 0 3 k rfl) ?_
  obtain ⟨_, T98, Lc98, X98, hQ98, st98⟩ := own_outC (Jvm.LawKit.callS X0 hx (y := mn12) hown (mvT hZ (ow110 hw)) (mvT hZ (ow111 hw)) (mvT hZ (ow112 hw)) (mvT hZ (ow113 hw)) (by decide) (backOf (W := 0) (rm15a18 l Z a0 hw []  h0 n0 Z0 ) hZ (ow113 hw) (ow112 hw) (by decide) (by decide)) (g := (mkF m 3 #[oI 0, oI 2] [.null, vI 2, vI 0])) rfl (by rw [hml]; rfl) (argsL := [(.int (0 : Int32)), (.int (2 : Int32)), .null]) (rest := []) (lenOf pd10 rfl) rfl (by show 2 * 0 + _ ≤ _; exact Nat.le_of_eq rfl) (hb hby d14_3) (fun _ _ => ⟨rfl, e0, (by decide : 0 + 0 ≤ _), (by decide : 0 + 0 ≤ _)⟩))
  obtain ⟨rfl, N98q, hh98⟩ := hQ98
  have N98 := Fr.app N0 N98q
  obtain ⟨_, X98, N98⟩ := own_hide X98 N98
  refine own_go (T' := T98) (f' := (mkF m 6 #[oI 0, oI 2] [vI 0])) (fun _ k => st98 _ k) ?_
  refine own_ret X98 (v := some (.int (0 : Int32))) (oN Br) Bs (fun fs hr => retI X98 hx Br (hb hby d14_6) hr) ?_ (by decide) (by decide)
  unfold Q14a17
  exact ⟨rfl, N98, hh98⟩
def own_t16 (pc : Nat) : Option (Instr × Nat) := bif Nat.ble pc 1 then (bif Nat.ble pc 0 then (bif Nat.beq pc 0 then some (.aload_n 0, 1) else none) else (bif Nat.beq pc 1 then some (.getfield 9, 3) else none)) else (bif Nat.ble pc 4 then (bif Nat.beq pc 4 then some (.iload_n 1, 1) else none) else (bif Nat.beq pc 5 then some (.aaload, 1) else none))
theorem own_ok16 : ∀ pc q, own_fetch 7 own_t16 pc = some q → decode jdk_38_method_18_code pc = .ok q := own_tab (by decide +kernel)
theorem d16_6 : decode jdk_38_method_18_code 6 = .ok (.areturn, 1) := by decide +kernel
def Q16a19 (Z : State) (b59c : Addr) (h0 : Heap) (n0 : Nat) (v : Option Value) (h : Heap) (L : List Loc) : Prop := v = some (.ref b59c) ∧ Fr n0 L ∧ h = h0
set_option maxRecDepth 65536 in
set_option maxHeartbeats 40000000 in
theorem rm16a19 (l : Launch) (Z : State) (a0 : Array Value) (hw : HW a0 Z) (ws : List Jvm.Cond) (b9 : Addr) (b59a : Addr) (k59b : ClassId) (b59c : Addr) (b59d : Addr) (h0 : Heap) (n0 : Nat) (Z0 : n0 ≤ h0.size) (PF11 : oF1 Z h0 b9 (.ref b59a)) (PV15 : Arv Z h0 b59a k59b (.object "java/lang/Object") (10 : Int32) [(.ref b59c), (.ref b59d), .null, .null, .null, .null, .null, .null, .null, .null] .null) :
    own_Met l mn14 jdk_38_method_18_code 2 (some (.object "java/lang/Object")) ws (oRm 0 0 0 0) #[(.ref b9), (.int (0 : Int32))] Z h0 (Q16a19 Z b59c h0 n0) := by
  refine own_met (own := "java/util/ArrayList") rfl (plainFor_of_name pn_6) ?_
  intro p e s m below meth c s₁ hx hby hml hZ hown hnm X0 e0 Br Bs
  have N0 := Fr.nil n0
  have tt := own_tt hx hby own_ok16
  show own_Ends p e below s _ _ _ s₁ (mkF m 0 #[oR b9, oI 0] [])
  refine own_mrun2 (a0 := a0) (as := [b59a, b59c, b59d, b9]) (kc := [k59b, 0, 0, 0]) (fl := [fE16_9 3 (vR 0)]) (cl := []) (wl := []) (ks := [0]) (na := 4) (ls := [oR 3, oI 0]) (st := []) (me := [(0, (.object "java/lang/Object"), 10, [vR 1, vR 2, .null, .null, .null, .null, .null, .null, .null, .null])]) (pc' := 6) (ls' := [oR 3, oI 0]) (st' := [vR 1]) (ups := []) tt hZ hown X0 N0 e0 (oA (ow32 hw) trivial) trivial (oA PF11 trivial) (oA PV15 trivial) (Or.inl rfl) trivial rfl rfl (by decide +kernel) 4 (by decide +kernel) fun T3 h3 _ X3 N3 e3 K3 q3 M3 => ?_
  have e3 := e3.trans (q3 rfl)
  show own_Ends p e below s _ _ _ T3 (mkF m 6 #[oR b9, oI 0] [vR b59c])
  refine own_ret X3 (v := some (.ref b59c)) (oN Br) Bs (fun fs hr => own_retA X3 hx Br rfl rfl (hb hby d16_6) hr) ?_ (by decide) (by decide)
  unfold Q16a19
  exact ⟨rfl, N3, e3⟩
theorem pd5 : parseMethodDescriptor "(I)Ljava/lang/Object;" = some ⟨[.int], some (.object "java/lang/Object")⟩ := by decide +kernel
def own_t13 (pc : Nat) : Option (Instr × Nat) := bif Nat.ble pc 2 then (bif Nat.ble pc 0 then (bif Nat.beq pc 0 then some (.iload_n 1, 1) else none) else (bif Nat.ble pc 1 then (bif Nat.beq pc 1 then some (.aload_n 0, 1) else none) else (bif Nat.beq pc 2 then some (.getfield 48, 3) else none))) else (bif Nat.ble pc 8 then (bif Nat.beq pc 8 then some (.pop, 1) else none) else (bif Nat.ble pc 9 then (bif Nat.beq pc 9 then some (.aload_n 0, 1) else none) else (bif Nat.beq pc 10 then some (.iload_n 1, 1) else none)))
theorem own_ok13 : ∀ pc q, own_fetch 15 own_t13 pc = some q → decode jdk_38_method_20_code pc = .ok q := own_tab (by decide +kernel)
theorem d13_5 : decode jdk_38_method_20_code 5 = .ok (.invokestatic 118, 3) := by decide +kernel
theorem d13_11 : decode jdk_38_method_20_code 11 = .ok (.invokevirtual 123, 3) := by decide +kernel
theorem d13_14 : decode jdk_38_method_20_code 14 = .ok (.areturn, 1) := by decide +kernel
def Q13a16 (Z : State) (b59c : Addr) (h0 : Heap) (n0 : Nat) (v : Option Value) (h : Heap) (L : List Loc) : Prop := v = some (.ref b59c) ∧ Fr n0 L ∧ h = h0
set_option maxRecDepth 65536 in
set_option maxHeartbeats 40000000 in
theorem rm13a16 (l : Launch) (Z : State) (a0 : Array Value) (hw : HW a0 Z) (ws : List Jvm.Cond) (b9 : Addr) (b59a : Addr) (k59b : ClassId) (b59c : Addr) (b59d : Addr) (h0 : Heap) (n0 : Nat) (Z0 : n0 ≤ h0.size) (PE9 : Exa Z h0 b9 "java/util/ArrayList") (PF11 : oF1 Z h0 b9 (.ref b59a)) (PF12 : oF2 Z h0 b9 (.int (2 : Int32))) (PV15 : Arv Z h0 b59a k59b (.object "java/lang/Object") (10 : Int32) [(.ref b59c), (.ref b59d), .null, .null, .null, .null, .null, .null, .null, .null] .null) :
    own_Met l mn15 jdk_38_method_20_code 2 (some (.object "java/lang/Object")) ws (oRm 2 0 0 27) #[(.ref b9), (.int (0 : Int32))] Z h0 (Q13a16 Z b59c h0 n0) := by
  refine own_met (own := "java/util/ArrayList") rfl (plainFor_of_name pn_6) ?_
  intro p e s m below meth c s₁ hx hby hml hZ hown hnm X0 e0 Br Bs
  have N0 := Fr.nil n0
  have tt := own_tt hx hby own_ok13
  show own_Ends p e below s _ _ _ s₁ (mkF m 0 #[oR b9, oI 0] [])
  refine own_mrun2 (a0 := a0) (as := [b9]) (kc := [0]) (fl := [fE13_48 0 (vI 2)]) (cl := []) (wl := []) (ks := []) (na := 1) (ls := [oR 0, oI 0]) (st := []) (me := []) (pc' := 5) (ls' := [oR 0, oI 0]) (st' := [vI 2, vI 0]) (ups := []) tt hZ hown X0 N0 e0 (oA (ow57 hw) trivial) trivial (oA PF12 trivial) trivial (Or.inl rfl) trivial rfl rfl (by decide +kernel) 3 (by decide +kernel) fun T97 h97 _ X97 N97 e97 K97 q97 M97 => ?_
  have e97 := e97.trans (q97 rfl)
  show own_Ends p e below s _ _ _ T97 (mkF m 5 #[oR b9, oI 0] [vI 2, vI 0])
  obtain ⟨_, T99, Lc99, X99, hQ99, st99⟩ := own_outC (Jvm.LawKit.callS X97 hx (y := mn13) hown (mvT hZ (ow106 hw)) (mvT hZ (ow107 hw)) (mvT hZ (ow108 hw)) (mvT hZ (ow109 hw)) (by decide) (backOf (W := 0) (rm14a17 l Z a0 hw []  h0 n0 Z0 ) hZ (ow109 hw) (ow108 hw) (by decide) (by decide)) (g := (mkF m 5 #[oR b9, oI 0] [vI 2, vI 0])) rfl (by rw [hml]; rfl) (argsL := [(.int (0 : Int32)), (.int (2 : Int32))]) (rest := []) (lenOf pd7 rfl) rfl (by show 2 * 0 + _ ≤ _; exact Nat.le_of_eq rfl) (hb hby d13_5) (fun _ _ => ⟨rfl, e97, (by decide : 0 + 0 ≤ _), (by decide : 0 + 0 ≤ _)⟩))
  obtain ⟨rfl, N99q, hh99⟩ := hQ99
  have N99 := Fr.app N97 N99q
  obtain ⟨_, X99, N99⟩ := own_hide X99 N99
  refine own_go (T' := T99) (f' := (mkF m 11 #[oR b9, oI 0] [vI 0, vR b9])) (fun _ k => st99 _ (own_e X99 tt 8 3 k rfl)) ?_
  obtain ⟨cq3, kq3, q3a, q3b, q3c⟩ := isOf hZ hh99 PE9
  obtain ⟨_, T3, Lc3, X3, hQ3, st3⟩ := own_out (X99.virtualBack hx (y := mn14) (z := mn14) hown (mvT hZ (ow114 hw)) (mvT hZ (ow115 hw)) (notFace_of_selects (args := #[]) (mvT hZ (ow117 hw))) (mvT hZ (ow117 hw)) (mvT hZ (ow116 hw)) (by decide) (backOf (W := 0) (rm16a19 l Z a0 hw [] b9 b59a k59b b59c b59d h0 n0 Z0 PF11 PV15) hZ (ow118 hw) (ow12 hw) (by decide) (by decide)) q3a q3c (g := (mkF m 11 #[oR b9, oI 0] [vI 0, vR b9])) rfl (by rw [hml]; rfl) (Steps.refl _) (argsL := [(.int (0 : Int32))]) (rest := []) (lenOf pd5 rfl) rfl (by show 2 * 0 + _ ≤ _; exact Nat.le_of_eq rfl) (hb hby d13_11) (fun _ _ => ⟨rfl, hh99, (by decide : 0 + 0 ≤ _), (by decide : 0 + 0 ≤ _)⟩))
  obtain ⟨rfl, N3q, hh3⟩ := hQ3
  have N3 := Fr.app N99 N3q
  obtain ⟨_, X3, N3⟩ := own_hide X3 N3
  refine own_go (T' := T3) (f' := (mkF m 14 #[oR b9, oI 0] [vR b59c])) (fun _ k => st3.trans k) ?_
  refine own_ret X3 (v := some (.ref b59c)) (oN Br) Bs (fun fs hr => own_retA X3 hx Br rfl rfl (hb hby d13_14) hr) ?_ (by decide) (by decide)
  unfold Q13a16
  exact ⟨rfl, N3, hh3⟩
def Q15a22 (Z : State)  (h0 : Heap) (n0 : Nat) (v : Option Value) (h : Heap) (L : List Loc) : Prop := v = some (.int (1 : Int32)) ∧ Fr n0 L ∧ h = h0
set_option maxRecDepth 65536 in
set_option maxHeartbeats 40000000 in
theorem rm15a22 (l : Launch) (Z : State) (a0 : Array Value) (hw : HW a0 Z) (ws : List Jvm.Cond)  (h0 : Heap) (n0 : Nat) (Z0 : n0 ≤ h0.size) :
    own_Met l mn12 jdk_41_method_11_code 3 (some .int) ws (oRm 0 0 0 0) #[(.int (1 : Int32)), (.int (2 : Int32)), .null] Z h0 (Q15a22 Z  h0 n0) := by
  refine own_met (own := "jdk/internal/util/Preconditions") rfl (plainFor_of_name pn_8) ?_
  intro p e s m below meth c s₁ hx hby hml hZ hown hnm X0 e0 Br Bs
  have N0 := Fr.nil n0
  have tt := own_tt hx hby own_ok15
  show own_Ends p e below s _ _ _ s₁ (mkF m 0 #[oI 1, oI 2, .val .null] [])
  refine own_go (T' := s₁) (f' := (mkF m 17 #[oI 1, oI 2, .val .null] [vI 1])) (fun _ k => own_e X0 tt 0 6 k rfl) ?_
  refine own_ret X0 (v := some (.int (1 : Int32))) (oN Br) Bs (fun fs hr => retI X0 hx Br (hb hby d15_17) hr) ?_ (by decide) (by decide)
  unfold Q15a22
  exact ⟨rfl, N0, e0⟩
def Q14a21 (Z : State)  (h0 : Heap) (n0 : Nat) (v : Option Value) (h : Heap) (L : List Loc) : Prop := v = some (.int (1 : Int32)) ∧ Fr n0 L ∧ h = h0
set_option maxRecDepth 65536 in
set_option maxHeartbeats 40000000 in
theorem rm14a21 (l : Launch) (Z : State) (a0 : Array Value) (hw : HW a0 Z) (ws : List Jvm.Cond)  (h0 : Heap) (n0 : Nat) (Z0 : n0 ≤ h0.size) :
    own_Met l mn13 jdk_31_method_17_code 2 (some .int) ws (oRm 1 0 0 14) #[(.int (1 : Int32)), (.int (2 : Int32))] Z h0 (Q14a21 Z  h0 n0) := by
  refine own_met (own := "java/util/Objects") rfl (plainFor_of_name pn_7) ?_
  intro p e s m below meth c s₁ hx hby hml hZ hown hnm X0 e0 Br Bs
  have N0 := Fr.nil n0
  have tt := own_tt hx hby own_ok14
  show own_Ends p e below s _ _ _ s₁ (mkF m 0 #[oI 1, oI 2] [])
  refine own_go (T' := s₁) (f' := (mkF m 3 #[oI 1, oI 2] [.null, vI 2, vI 1])) (fun _ k => own_e X0 tt 0 3 k rfl) ?_
  obtain ⟨_, T3, Lc3, X3, hQ3, st3⟩ := own_outC (Jvm.LawKit.callS X0 hx (y := mn12) hown (mvT hZ (ow110 hw)) (mvT hZ (ow111 hw)) (mvT hZ (ow112 hw)) (mvT hZ (ow113 hw)) (by decide) (backOf (W := 0) (rm15a22 l Z a0 hw []  h0 n0 Z0 ) hZ (ow113 hw) (ow112 hw) (by decide) (by decide)) (g := (mkF m 3 #[oI 1, oI 2] [.null, vI 2, vI 1])) rfl (by rw [hml]; rfl) (argsL := [(.int (1 : Int32)), (.int (2 : Int32)), .null]) (rest := []) (lenOf pd10 rfl) rfl (by show 2 * 0 + _ ≤ _; exact Nat.le_of_eq rfl) (hb hby d14_3) (fun _ _ => ⟨rfl, e0, (by decide : 0 + 0 ≤ _), (by decide : 0 + 0 ≤ _)⟩))
  obtain ⟨rfl, N3q, hh3⟩ := hQ3
  have N3 := Fr.app N0 N3q
  obtain ⟨_, X3, N3⟩ := own_hide X3 N3
  refine own_go (T' := T3) (f' := (mkF m 6 #[oI 1, oI 2] [vI 1])) (fun _ k => st3 _ k) ?_
  refine own_ret X3 (v := some (.int (1 : Int32))) (oN Br) Bs (fun fs hr => retI X3 hx Br (hb hby d14_6) hr) ?_ (by decide) (by decide)
  unfold Q14a21
  exact ⟨rfl, N3, hh3⟩
def Q16a23 (Z : State) (b59d : Addr) (h0 : Heap) (n0 : Nat) (v : Option Value) (h : Heap) (L : List Loc) : Prop := v = some (.ref b59d) ∧ Fr n0 L ∧ h = h0
set_option maxRecDepth 65536 in
set_option maxHeartbeats 40000000 in
theorem rm16a23 (l : Launch) (Z : State) (a0 : Array Value) (hw : HW a0 Z) (ws : List Jvm.Cond) (b9 : Addr) (b59a : Addr) (k59b : ClassId) (b59c : Addr) (b59d : Addr) (h0 : Heap) (n0 : Nat) (Z0 : n0 ≤ h0.size) (PF11 : oF1 Z h0 b9 (.ref b59a)) (PV15 : Arv Z h0 b59a k59b (.object "java/lang/Object") (10 : Int32) [(.ref b59c), (.ref b59d), .null, .null, .null, .null, .null, .null, .null, .null] .null) :
    own_Met l mn14 jdk_38_method_18_code 2 (some (.object "java/lang/Object")) ws (oRm 0 0 0 0) #[(.ref b9), (.int (1 : Int32))] Z h0 (Q16a23 Z b59d h0 n0) := by
  refine own_met (own := "java/util/ArrayList") rfl (plainFor_of_name pn_6) ?_
  intro p e s m below meth c s₁ hx hby hml hZ hown hnm X0 e0 Br Bs
  have N0 := Fr.nil n0
  have tt := own_tt hx hby own_ok16
  show own_Ends p e below s _ _ _ s₁ (mkF m 0 #[oR b9, oI 1] [])
  refine own_mrun2 (a0 := a0) (as := [b59a, b59c, b59d, b9]) (kc := [k59b, 0, 0, 0]) (fl := [fE16_9 3 (vR 0)]) (cl := []) (wl := []) (ks := [0]) (na := 4) (ls := [oR 3, oI 1]) (st := []) (me := [(0, (.object "java/lang/Object"), 10, [vR 1, vR 2, .null, .null, .null, .null, .null, .null, .null, .null])]) (pc' := 6) (ls' := [oR 3, oI 1]) (st' := [vR 2]) (ups := []) tt hZ hown X0 N0 e0 (oA (ow32 hw) trivial) trivial (oA PF11 trivial) (oA PV15 trivial) (Or.inl rfl) trivial rfl rfl (by decide +kernel) 4 (by decide +kernel) fun T3 h3 _ X3 N3 e3 K3 q3 M3 => ?_
  have e3 := e3.trans (q3 rfl)
  show own_Ends p e below s _ _ _ T3 (mkF m 6 #[oR b9, oI 1] [vR b59d])
  refine own_ret X3 (v := some (.ref b59d)) (oN Br) Bs (fun fs hr => own_retA X3 hx Br rfl rfl (hb hby d16_6) hr) ?_ (by decide) (by decide)
  unfold Q16a23
  exact ⟨rfl, N3, e3⟩
def Q13a20 (Z : State) (b59d : Addr) (h0 : Heap) (n0 : Nat) (v : Option Value) (h : Heap) (L : List Loc) : Prop := v = some (.ref b59d) ∧ Fr n0 L ∧ h = h0
set_option maxRecDepth 65536 in
set_option maxHeartbeats 40000000 in
theorem rm13a20 (l : Launch) (Z : State) (a0 : Array Value) (hw : HW a0 Z) (ws : List Jvm.Cond) (b9 : Addr) (b59a : Addr) (k59b : ClassId) (b59c : Addr) (b59d : Addr) (h0 : Heap) (n0 : Nat) (Z0 : n0 ≤ h0.size) (PE9 : Exa Z h0 b9 "java/util/ArrayList") (PF11 : oF1 Z h0 b9 (.ref b59a)) (PF12 : oF2 Z h0 b9 (.int (2 : Int32))) (PV15 : Arv Z h0 b59a k59b (.object "java/lang/Object") (10 : Int32) [(.ref b59c), (.ref b59d), .null, .null, .null, .null, .null, .null, .null, .null] .null) :
    own_Met l mn15 jdk_38_method_20_code 2 (some (.object "java/lang/Object")) ws (oRm 2 0 0 27) #[(.ref b9), (.int (1 : Int32))] Z h0 (Q13a20 Z b59d h0 n0) := by
  refine own_met (own := "java/util/ArrayList") rfl (plainFor_of_name pn_6) ?_
  intro p e s m below meth c s₁ hx hby hml hZ hown hnm X0 e0 Br Bs
  have N0 := Fr.nil n0
  have tt := own_tt hx hby own_ok13
  show own_Ends p e below s _ _ _ s₁ (mkF m 0 #[oR b9, oI 1] [])
  refine own_mrun2 (a0 := a0) (as := [b9]) (kc := [0]) (fl := [fE13_48 0 (vI 2)]) (cl := []) (wl := []) (ks := []) (na := 1) (ls := [oR 0, oI 1]) (st := []) (me := []) (pc' := 5) (ls' := [oR 0, oI 1]) (st' := [vI 2, vI 1]) (ups := []) tt hZ hown X0 N0 e0 (oA (ow57 hw) trivial) trivial (oA PF12 trivial) trivial (Or.inl rfl) trivial rfl rfl (by decide +kernel) 3 (by decide +kernel) fun T3 h3 _ X3 N3 e3 K3 q3 M3 => ?_
  have e3 := e3.trans (q3 rfl)
  show own_Ends p e below s _ _ _ T3 (mkF m 5 #[oR b9, oI 1] [vI 2, vI 1])
  obtain ⟨_, T4, Lc4, X4, hQ4, st4⟩ := own_outC (Jvm.LawKit.callS X3 hx (y := mn13) hown (mvT hZ (ow106 hw)) (mvT hZ (ow107 hw)) (mvT hZ (ow108 hw)) (mvT hZ (ow109 hw)) (by decide) (backOf (W := 0) (rm14a21 l Z a0 hw []  h0 n0 Z0 ) hZ (ow109 hw) (ow108 hw) (by decide) (by decide)) (g := (mkF m 5 #[oR b9, oI 1] [vI 2, vI 1])) rfl (by rw [hml]; rfl) (argsL := [(.int (1 : Int32)), (.int (2 : Int32))]) (rest := []) (lenOf pd7 rfl) rfl (by show 2 * 0 + _ ≤ _; exact Nat.le_of_eq rfl) (hb hby d13_5) (fun _ _ => ⟨rfl, e3, (by decide : 0 + 0 ≤ _), (by decide : 0 + 0 ≤ _)⟩))
  obtain ⟨rfl, N4q, hh4⟩ := hQ4
  have N4 := Fr.app N3 N4q
  obtain ⟨_, X4, N4⟩ := own_hide X4 N4
  refine own_go (T' := T4) (f' := (mkF m 11 #[oR b9, oI 1] [vI 1, vR b9])) (fun _ k => st4 _ (own_e X4 tt 8 3 k rfl)) ?_
  obtain ⟨cq5, kq5, q5a, q5b, q5c⟩ := isOf hZ hh4 PE9
  obtain ⟨_, T5, Lc5, X5, hQ5, st5⟩ := own_out (X4.virtualBack hx (y := mn14) (z := mn14) hown (mvT hZ (ow114 hw)) (mvT hZ (ow115 hw)) (notFace_of_selects (args := #[]) (mvT hZ (ow117 hw))) (mvT hZ (ow117 hw)) (mvT hZ (ow116 hw)) (by decide) (backOf (W := 0) (rm16a23 l Z a0 hw [] b9 b59a k59b b59c b59d h0 n0 Z0 PF11 PV15) hZ (ow118 hw) (ow12 hw) (by decide) (by decide)) q5a q5c (g := (mkF m 11 #[oR b9, oI 1] [vI 1, vR b9])) rfl (by rw [hml]; rfl) (Steps.refl _) (argsL := [(.int (1 : Int32))]) (rest := []) (lenOf pd5 rfl) rfl (by show 2 * 0 + _ ≤ _; exact Nat.le_of_eq rfl) (hb hby d13_11) (fun _ _ => ⟨rfl, hh4, (by decide : 0 + 0 ≤ _), (by decide : 0 + 0 ≤ _)⟩))
  obtain ⟨rfl, N5q, hh5⟩ := hQ5
  have N5 := Fr.app N4 N5q
  obtain ⟨_, X5, N5⟩ := own_hide X5 N5
  refine own_go (T' := T5) (f' := (mkF m 14 #[oR b9, oI 1] [vR b59d])) (fun _ k => st5.trans k) ?_
  refine own_ret X5 (v := some (.ref b59d)) (oN Br) Bs (fun fs hr => own_retA X5 hx Br rfl rfl (hb hby d13_14) hr) ?_ (by decide) (by decide)
  unfold Q13a20
  exact ⟨rfl, N5, hh5⟩
def own_t17 (pc : Nat) : Option (Instr × Nat) := bif Nat.ble pc 33 then (bif Nat.ble pc 13 then (bif Nat.ble pc 6 then (bif Nat.ble pc 1 then (bif Nat.ble pc 0 then (bif Nat.beq pc 0 then some (.lconst 0, 1) else none) else (bif Nat.beq pc 1 then some (.lstore_n 2, 1) else none)) else (bif Nat.ble pc 2 then (bif Nat.beq pc 2 then some (.aload_n 0, 1) else none) else (bif Nat.ble pc 3 then (bif Nat.beq pc 3 then some (.getfield 32, 3) else none) else (bif Nat.beq pc 6 then some (.iload_n 1, 1) else none)))) else (bif Nat.ble pc 8 then (bif Nat.ble pc 7 then (bif Nat.beq pc 7 then some (.iaload, 1) else none) else (bif Nat.beq pc 8 then some (.istore 4, 2) else none)) else (bif Nat.ble pc 10 then (bif Nat.beq pc 10 then some (.iconst 0, 1) else none) else (bif Nat.ble pc 11 then (bif Nat.beq pc 11 then some (.istore 5, 2) else none) else (bif Nat.beq pc 13 then some (.iload 4, 2) else none))))) else (bif Nat.ble pc 24 then (bif Nat.ble pc 18 then (bif Nat.ble pc 15 then (bif Nat.beq pc 15 then some (.ifCond .le 52, 3) else none) else (bif Nat.beq pc 18 then some (.lload_n 2, 1) else none)) else (bif Nat.ble pc 19 then (bif Nat.beq pc 19 then some (.ldc2_w 86, 3) else none) else (bif Nat.ble pc 22 then (bif Nat.beq pc 22 then some (.bipush 64, 2) else none) else (bif Nat.beq pc 24 then some (.aload_n 0, 1) else none)))) else (bif Nat.ble pc 29 then (bif Nat.ble pc 25 then (bif Nat.beq pc 25 then some (.getfield 29, 3) else none) else (bif Nat.ble pc 28 then (bif Nat.beq pc 28 then some (.iload_n 1, 1) else none) else (bif Nat.beq pc 29 then some (.aaload, 1) else none))) else (bif Nat.ble pc 30 then (bif Nat.beq pc 30 then some (.iload 5, 2) else none) else (bif Nat.ble pc 32 then (bif Nat.beq pc 32 then some (.iaload, 1) else none) else (bif Nat.beq pc 33 then some (.isub, 1) else none)))))) else (bif Nat.ble pc 47 then (bif Nat.ble pc 40 then (bif Nat.ble pc 35 then (bif Nat.ble pc 34 then (bif Nat.beq pc 34 then some (.lushr, 1) else none) else (bif Nat.beq pc 35 then some (.aload_n 0, 1) else none)) else (bif Nat.ble pc 36 then (bif Nat.beq pc 36 then some (.getfield 26, 3) else none) else (bif Nat.ble pc 39 then (bif Nat.beq pc 39 then some (.iload_n 1, 1) else none) else (bif Nat.beq pc 40 then some (.aaload, 1) else none)))) else (bif Nat.ble pc 44 then (bif Nat.ble pc 41 then (bif Nat.beq pc 41 then some (.iload 5, 2) else none) else (bif Nat.ble pc 43 then (bif Nat.beq pc 43 then some (.iaload, 1) else none) else (bif Nat.beq pc 44 then some (.lshl, 1) else none))) else (bif Nat.ble pc 45 then (bif Nat.beq pc 45 then some (.lor, 1) else none) else (bif Nat.ble pc 46 then (bif Nat.beq pc 46 then some (.lstore_n 2, 1) else none) else (bif Nat.beq pc 47 then some (.iload 4, 2) else none))))) else (bif Nat.ble pc 55 then (bif Nat.ble pc 50 then (bif Nat.ble pc 49 then (bif Nat.beq pc 49 then some (.aload_n 0, 1) else none) else (bif Nat.beq pc 50 then some (.getfield 29, 3) else none)) else (bif Nat.ble pc 53 then (bif Nat.beq pc 53 then some (.iload_n 1, 1) else none) else (bif Nat.ble pc 54 then (bif Nat.beq pc 54 then some (.aaload, 1) else none) else (bif Nat.beq pc 55 then some (.iload 5, 2) else none)))) else (bif Nat.ble pc 59 then (bif Nat.ble pc 57 then (bif Nat.beq pc 57 then some (.iaload, 1) else none) else (bif Nat.ble pc 58 then (bif Nat.beq pc 58 then some (.isub, 1) else none) else (bif Nat.beq pc 59 then some (.istore 4, 2) else none))) else (bif Nat.ble pc 61 then (bif Nat.beq pc 61 then some (.iinc 5 1, 3) else none) else (bif Nat.ble pc 64 then (bif Nat.beq pc 64 then some (.goto (-51), 3) else none) else (bif Nat.beq pc 67 then some (.lload_n 2, 1) else none))))))
theorem own_ok17 : ∀ pc q, own_fetch 69 own_t17 pc = some q → decode prog_28_method_8_code pc = .ok q := own_tab (by decide +kernel)
theorem d17_68 : decode prog_28_method_8_code 68 = .ok (.lreturn, 1) := by decide +kernel
def Q17a24 (Z : State)  (h0 : Heap) (n0 : Nat) (v : Option Value) (h : Heap) (L : List Loc) : Prop := v = some (.long (-4294967296 : Int64)) ∧ Fr n0 L ∧ h = h0
set_option maxRecDepth 65536 in
set_option maxHeartbeats 40000000 in
theorem rm17a24 (l : Launch) (Z : State) (a0 : Array Value) (hw : HW a0 Z) (ws : List Jvm.Cond) (b2 : Addr) (b67 : Addr) (b75 : Addr) (b84 : Addr) (k67 : ClassId) (x67a : Addr) (x67b : Addr) (kc67 : ClassId) (k75 : ClassId) (x75a : Addr) (x75b : Addr) (kc75 : ClassId) (k84 : ClassId) (h0 : Heap) (n0 : Nat) (Z0 : n0 ≤ h0.size) (PF3 : oF3 Z h0 b2 (.ref b67)) (PF4 : oF4 Z h0 b2 (.ref b75)) (PF5 : oF5 Z h0 b2 (.ref b84)) (PV20 : Arv Z h0 b67 k67 (.array .int) (2 : Int32) [(.ref x67a), (.ref x67b)] .null) (PV22 : Arv Z h0 x67a kc67 .int (2 : Int32) [(.int (32 : Int32)), (.int (0 : Int32))] (.int (0 : Int32))) (PV26 : Arv Z h0 b75 k75 (.array .int) (2 : Int32) [(.ref x75a), (.ref x75b)] .null) (PV28 : Arv Z h0 x75a kc75 .int (2 : Int32) [(.int (32 : Int32)), (.int (32 : Int32))] (.int (0 : Int32))) (PV32 : Arv Z h0 b84 k84 .int (2 : Int32) [(.int (32 : Int32)), (.int (32 : Int32))] (.int (0 : Int32))) :
    own_Met l mn17 prog_28_method_8_code 6 (some .long) ws (oRm 0 0 0 0) #[(.ref b2), (.int (0 : Int32))] Z h0 (Q17a24 Z  h0 n0) := by
  refine own_met (own := "com/example/libakin/libakin/simhash/Layout") rfl (plainFor_of_name pn_0) ?_
  intro p e s m below meth c s₁ hx hby hml hZ hown hnm X0 e0 Br Bs
  have N0 := Fr.nil n0
  have tt := own_tt hx hby own_ok17
  show own_Ends p e below s _ _ _ s₁ (mkF m 0 #[oR b2, oI 0, oU, oU, oU, oU] [])
  refine own_mrun2 (a0 := a0) (as := [b2, b67, b75, b84, x67a, x67b, x75a, x75b]) (kc := [0, k67, k75, k84, kc67, 0, kc75, 0]) (fl := [fE17_32 0 (vR 3), fE17_29 0 (vR 2), fE17_26 0 (vR 1)]) (cl := [(86, (-1))]) (wl := []) (ks := [3, 2, 6, 1, 4]) (na := 8) (ls := [oR 0, oI 0, oU, oU, oU, oU]) (st := []) (me := [(3, .int, 2, [vI 32, vI 32]), (2, (.array .int), 2, [vR 6, vR 7]), (6, .int, 2, [vI 32, vI 32]), (1, (.array .int), 2, [vR 4, vR 5]), (4, .int, 2, [vI 32, vI 0])]) (pc' := 68) (ls' := [oR 0, oI 0, .val (.long (-4294967296)), oS, oI 0, oI 1]) (st' := [.long (-4294967296)]) (ups := []) tt hZ hown X0 N0 e0 (oA (ow95 hw) (oA (ow93 hw) (oA (ow91 hw) trivial))) (oA (ow129 hw) trivial) (oA PF5 (oA PF4 (oA PF3 trivial))) (oA PV32 (oA PV26 (oA PV28 (oA PV20 (oA PV22 trivial))))) (Or.inl rfl) trivial rfl rfl (by decide +kernel) 45 (by decide +kernel) fun T6 h6 _ X6 N6 e6 K6 q6 M6 => ?_
  have e6 := e6.trans (q6 rfl)
  show own_Ends p e below s _ _ _ T6 (mkF m 68 #[oR b2, oI 0, .val (.long (-4294967296 : Int64)), oS, oI 0, oI 1] [(.long (-4294967296 : Int64))])
  refine own_ret X6 (v := some (.long (-4294967296 : Int64))) (oN Br) Bs (fun fs hr => own_retL X6 hx Br (hb hby d17_68) hr) ?_ (by decide) (by decide)
  unfold Q17a24
  exact ⟨rfl, N6, e6⟩
theorem pd4 : parseMethodDescriptor "(I)J" = some ⟨[.int], some .long⟩ := by decide +kernel
def own_t18 (pc : Nat) : Option (Instr × Nat) := bif Nat.ble pc 34 then (bif Nat.ble pc 15 then (bif Nat.ble pc 6 then (bif Nat.ble pc 1 then (bif Nat.ble pc 0 then (bif Nat.beq pc 0 then some (.lconst 0, 1) else none) else (bif Nat.beq pc 1 then some (.lstore 4, 2) else none)) else (bif Nat.ble pc 3 then (bif Nat.beq pc 3 then some (.iconst 0, 1) else none) else (bif Nat.ble pc 4 then (bif Nat.beq pc 4 then some (.istore 6, 2) else none) else (bif Nat.beq pc 6 then some (.iload 6, 2) else none)))) else (bif Nat.ble pc 12 then (bif Nat.ble pc 8 then (bif Nat.beq pc 8 then some (.aload_n 0, 1) else none) else (bif Nat.ble pc 9 then (bif Nat.beq pc 9 then some (.getfield 29, 3) else none) else (bif Nat.beq pc 12 then some (.iload_n 1, 1) else none))) else (bif Nat.ble pc 13 then (bif Nat.beq pc 13 then some (.aaload, 1) else none) else (bif Nat.ble pc 14 then (bif Nat.beq pc 14 then some (.arraylength, 1) else none) else (bif Nat.beq pc 15 then some (.if_icmp .ge 56, 3) else none))))) else (bif Nat.ble pc 24 then (bif Nat.ble pc 19 then (bif Nat.ble pc 18 then (bif Nat.beq pc 18 then some (.lload_n 2, 1) else none) else (bif Nat.beq pc 19 then some (.aload_n 0, 1) else none)) else (bif Nat.ble pc 20 then (bif Nat.beq pc 20 then some (.getfield 26, 3) else none) else (bif Nat.ble pc 23 then (bif Nat.beq pc 23 then some (.iload_n 1, 1) else none) else (bif Nat.beq pc 24 then some (.aaload, 1) else none)))) else (bif Nat.ble pc 28 then (bif Nat.ble pc 25 then (bif Nat.beq pc 25 then some (.iload 6, 2) else none) else (bif Nat.ble pc 27 then (bif Nat.beq pc 27 then some (.iaload, 1) else none) else (bif Nat.beq pc 28 then some (.lushr, 1) else none))) else (bif Nat.ble pc 29 then (bif Nat.beq pc 29 then some (.ldc2_w 86, 3) else none) else (bif Nat.ble pc 32 then (bif Nat.beq pc 32 then some (.bipush 64, 2) else none) else (bif Nat.beq pc 34 then some (.aload_n 0, 1) else none)))))) else (bif Nat.ble pc 50 then (bif Nat.ble pc 42 then (bif Nat.ble pc 38 then (bif Nat.ble pc 35 then (bif Nat.beq pc 35 then some (.getfield 29, 3) else none) else (bif Nat.beq pc 38 then some (.iload_n 1, 1) else none)) else (bif Nat.ble pc 39 then (bif Nat.beq pc 39 then some (.aaload, 1) else none) else (bif Nat.ble pc 40 then (bif Nat.beq pc 40 then some (.iload 6, 2) else none) else (bif Nat.beq pc 42 then some (.iaload, 1) else none)))) else (bif Nat.ble pc 45 then (bif Nat.ble pc 43 then (bif Nat.beq pc 43 then some (.isub, 1) else none) else (bif Nat.ble pc 44 then (bif Nat.beq pc 44 then some (.lushr, 1) else none) else (bif Nat.beq pc 45 then some (.land, 1) else none))) else (bif Nat.ble pc 46 then (bif Nat.beq pc 46 then some (.lstore 7, 2) else none) else (bif Nat.ble pc 48 then (bif Nat.beq pc 48 then some (.lload 4, 2) else none) else (bif Nat.beq pc 50 then some (.aload_n 0, 1) else none))))) else (bif Nat.ble pc 59 then (bif Nat.ble pc 55 then (bif Nat.ble pc 51 then (bif Nat.beq pc 51 then some (.getfield 29, 3) else none) else (bif Nat.ble pc 54 then (bif Nat.beq pc 54 then some (.iload_n 1, 1) else none) else (bif Nat.beq pc 55 then some (.aaload, 1) else none))) else (bif Nat.ble pc 56 then (bif Nat.beq pc 56 then some (.iload 6, 2) else none) else (bif Nat.ble pc 58 then (bif Nat.beq pc 58 then some (.iaload, 1) else none) else (bif Nat.beq pc 59 then some (.lshl, 1) else none)))) else (bif Nat.ble pc 63 then (bif Nat.ble pc 60 then (bif Nat.beq pc 60 then some (.lload 7, 2) else none) else (bif Nat.ble pc 62 then (bif Nat.beq pc 62 then some (.lor, 1) else none) else (bif Nat.beq pc 63 then some (.lstore 4, 2) else none))) else (bif Nat.ble pc 65 then (bif Nat.beq pc 65 then some (.iinc 6 1, 3) else none) else (bif Nat.ble pc 68 then (bif Nat.beq pc 68 then some (.goto (-62), 3) else none) else (bif Nat.beq pc 71 then some (.lload 4, 2) else none))))))
theorem own_ok18 : ∀ pc q, own_fetch 74 own_t18 pc = some q → decode prog_28_method_6_code pc = .ok q := own_tab (by decide +kernel)
theorem d18_73 : decode prog_28_method_6_code 73 = .ok (.lreturn, 1) := by decide +kernel
def Q18a25 (Z : State)  (h0 : Heap) (n0 : Nat) (v : Option Value) (h : Heap) (L : List Loc) : Prop := v = some (.long (4294967295 : Int64)) ∧ Fr n0 L ∧ h = h0
set_option maxRecDepth 65536 in
set_option maxHeartbeats 40000000 in
theorem rm18a25 (l : Launch) (Z : State) (a0 : Array Value) (hw : HW a0 Z) (ws : List Jvm.Cond) (b2 : Addr) (b67 : Addr) (b75 : Addr) (k67 : ClassId) (x67a : Addr) (x67b : Addr) (kc67 : ClassId) (k75 : ClassId) (x75a : Addr) (x75b : Addr) (kc75 : ClassId) (h0 : Heap) (n0 : Nat) (Z0 : n0 ≤ h0.size) (PF3 : oF3 Z h0 b2 (.ref b67)) (PF4 : oF4 Z h0 b2 (.ref b75)) (PV20 : Arv Z h0 b67 k67 (.array .int) (2 : Int32) [(.ref x67a), (.ref x67b)] .null) (PV24 : Arv Z h0 x67b kc67 .int (2 : Int32) [(.int (0 : Int32)), (.int (32 : Int32))] (.int (0 : Int32))) (PV26 : Arv Z h0 b75 k75 (.array .int) (2 : Int32) [(.ref x75a), (.ref x75b)] .null) (PV30 : Arv Z h0 x75b kc75 .int (2 : Int32) [(.int (32 : Int32)), (.int (32 : Int32))] (.int (0 : Int32))) :
    own_Met l mn18 prog_28_method_6_code 9 (some .long) ws (oRm 0 0 0 0) #[(.ref b2), (.int (1 : Int32)), (.long (-4294967296 : Int64))] Z h0 (Q18a25 Z  h0 n0) := by
  refine own_met (own := "com/example/libakin/libakin/simhash/Layout") rfl (plainFor_of_name pn_0) ?_
  intro p e s m below meth c s₁ hx hby hml hZ hown hnm X0 e0 Br Bs
  have N0 := Fr.nil n0
  have tt := own_tt hx hby own_ok18
  show own_Ends p e below s _ _ _ s₁ (mkF m 0 #[oR b2, oI 1, .val (.long (-4294967296 : Int64)), oS, oU, oU, oU, oU, oU] [])
  refine own_mrun2 (a0 := a0) (as := [b2, b67, b75, x67a, x67b, x75a, x75b]) (kc := [0, k67, k75, 0, kc67, 0, kc75]) (fl := [fE18_29 0 (vR 2), fE18_26 0 (vR 1)]) (cl := [(86, (-1))]) (wl := []) (ks := [2, 6, 1, 4]) (na := 7) (ls := [oR 0, oI 1, .val (.long (-4294967296)), oS, oU, oU, oU, oU, oU]) (st := []) (me := [(2, (.array .int), 2, [vR 5, vR 6]), (6, .int, 2, [vI 32, vI 32]), (1, (.array .int), 2, [vR 3, vR 4]), (4, .int, 2, [vI 0, vI 32])]) (pc' := 73) (ls' := [oR 0, oI 1, .val (.long (-4294967296)), oS, .val (.long 4294967295), oS, oI 2, .val (.long 4294967295), oS]) (st' := [.long 4294967295]) (ups := []) tt hZ hown X0 N0 e0 (oA (ow93 hw) (oA (ow91 hw) trivial)) (oA (ow129 hw) trivial) (oA PF4 (oA PF3 trivial)) (oA PV26 (oA PV30 (oA PV20 (oA PV24 trivial)))) (Or.inl rfl) trivial rfl rfl (by decide +kernel) 92 (by decide +kernel) fun T5 h5 _ X5 N5 e5 K5 q5 M5 => ?_
  have e5 := e5.trans (q5 rfl)
  show own_Ends p e below s _ _ _ T5 (mkF m 73 #[oR b2, oI 1, .val (.long (-4294967296 : Int64)), oS, .val (.long (4294967295 : Int64)), oS, oI 2, .val (.long (4294967295 : Int64)), oS] [(.long (4294967295 : Int64))])
  refine own_ret X5 (v := some (.long (4294967295 : Int64))) (oN Br) Bs (fun fs hr => own_retL X5 hx Br (hb hby d18_73) hr) ?_ (by decide) (by decide)
  unfold Q18a25
  exact ⟨rfl, N5, e5⟩
theorem pd11 : parseMethodDescriptor "(IJ)J" = some ⟨[.int, .long], some .long⟩ := by decide +kernel
def own_t1 (pc : Nat) : Option (Instr × Nat) := bif Nat.ble pc 217 then (bif Nat.ble pc 97 then (bif Nat.ble pc 39 then (bif Nat.ble pc 20 then (bif Nat.ble pc 10 then (bif Nat.ble pc 5 then (bif Nat.ble pc 0 then (bif Nat.beq pc 0 then some (.aload_n 0, 1) else none) else (bif Nat.ble pc 4 then (bif Nat.beq pc 4 then some (.iload_n 2, 1) else none) else (bif Nat.beq pc 5 then some (.iconst 1, 1) else none))) else (bif Nat.ble pc 6 then (bif Nat.beq pc 6 then some (.iadd, 1) else none) else (bif Nat.ble pc 9 then (bif Nat.beq pc 9 then some (.astore_n 3, 1) else none) else (bif Nat.beq pc 10 then some (.iconst 0, 1) else none)))) else (bif Nat.ble pc 15 then (bif Nat.ble pc 11 then (bif Nat.beq pc 11 then some (.istore 4, 2) else none) else (bif Nat.ble pc 13 then (bif Nat.beq pc 13 then some (.iload 4, 2) else none) else (bif Nat.beq pc 15 then some (.iload_n 2, 1) else none))) else (bif Nat.ble pc 16 then (bif Nat.beq pc 16 then some (.if_icmp .ge 39, 3) else none) else (bif Nat.ble pc 19 then (bif Nat.beq pc 19 then some (.aload_n 3, 1) else none) else (bif Nat.beq pc 20 then some (.iload 4, 2) else none))))) else (bif Nat.ble pc 28 then (bif Nat.ble pc 24 then (bif Nat.ble pc 22 then (bif Nat.beq pc 22 then some (.iconst 1, 1) else none) else (bif Nat.ble pc 23 then (bif Nat.beq pc 23 then some (.iadd, 1) else none) else (bif Nat.beq pc 24 then some (.aload_n 3, 1) else none))) else (bif Nat.ble pc 25 then (bif Nat.beq pc 25 then some (.iload 4, 2) else none) else (bif Nat.ble pc 27 then (bif Nat.beq pc 27 then some (.iaload, 1) else none) else (bif Nat.beq pc 28 then some (.bipush 64, 2) else none)))) else (bif Nat.ble pc 33 then (bif Nat.ble pc 30 then (bif Nat.beq pc 30 then some (.iload_n 2, 1) else none) else (bif Nat.ble pc 32 then (bif Nat.beq pc 32 then some (.iadd, 1) else none) else (bif Nat.beq pc 33 then some (.iload 4, 2) else none))) else (bif Nat.ble pc 35 then (bif Nat.beq pc 35 then some (.bipush 64, 2) else none) else (bif Nat.ble pc 37 then (bif Nat.beq pc 37 then some (.iload_n 2, 1) else none) else (bif Nat.beq pc 39 then some (.if_icmp .ge 7, 3) else none)))))) else (bif Nat.ble pc 66 then (bif Nat.ble pc 49 then (bif Nat.ble pc 46 then (bif Nat.ble pc 42 then (bif Nat.beq pc 42 then some (.iconst 1, 1) else none) else (bif Nat.ble pc 43 then (bif Nat.beq pc 43 then some (.goto 4, 3) else none) else (bif Nat.beq pc 46 then some (.iconst 0, 1) else none))) else (bif Nat.ble pc 47 then (bif Nat.beq pc 47 then some (.iadd, 1) else none) else (bif Nat.ble pc 48 then (bif Nat.beq pc 48 then some (.iastore, 1) else none) else (bif Nat.beq pc 49 then some (.iinc 4 1, 3) else none)))) else (bif Nat.ble pc 62 then (bif Nat.ble pc 52 then (bif Nat.beq pc 52 then some (.goto (-39), 3) else none) else (bif Nat.ble pc 58 then (bif Nat.beq pc 58 then some (.dup, 1) else none) else (bif Nat.beq pc 62 then some (.astore 4, 2) else none))) else (bif Nat.ble pc 64 then (bif Nat.beq pc 64 then some (.iload_n 2, 1) else none) else (bif Nat.ble pc 65 then (bif Nat.beq pc 65 then some (.iload_n 2, 1) else none) else (bif Nat.beq pc 66 then some (.iload_n 1, 1) else none))))) else (bif Nat.ble pc 74 then (bif Nat.ble pc 69 then (bif Nat.ble pc 67 then (bif Nat.beq pc 67 then some (.isub, 1) else none) else (bif Nat.ble pc 68 then (bif Nat.beq pc 68 then some (.iconst 0, 1) else none) else (bif Nat.beq pc 69 then some (.iload_n 2, 1) else none))) else (bif Nat.ble pc 70 then (bif Nat.beq pc 70 then some (.iload_n 1, 1) else none) else (bif Nat.ble pc 71 then (bif Nat.beq pc 71 then some (.isub, 1) else none) else (bif Nat.beq pc 74 then some (.iconst 0, 1) else none)))) else (bif Nat.ble pc 81 then (bif Nat.ble pc 75 then (bif Nat.beq pc 75 then some (.aload 4, 2) else none) else (bif Nat.ble pc 80 then (bif Nat.beq pc 80 then some (.aload_n 0, 1) else none) else (bif Nat.beq pc 81 then some (.aload 4, 2) else none))) else (bif Nat.ble pc 88 then (bif Nat.beq pc 88 then some (.iload_n 2, 1) else none) else (bif Nat.ble pc 96 then (bif Nat.beq pc 96 then some (.aload_n 0, 1) else none) else (bif Nat.beq pc 97 then some (.aload 4, 2) else none))))))) else (bif Nat.ble pc 178 then (bif Nat.ble pc 147 then (bif Nat.ble pc 128 then (bif Nat.ble pc 113 then (bif Nat.ble pc 104 then (bif Nat.beq pc 104 then some (.iload_n 2, 1) else none) else (bif Nat.ble pc 112 then (bif Nat.beq pc 112 then some (.aload_n 0, 1) else none) else (bif Nat.beq pc 113 then some (.aload 4, 2) else none))) else (bif Nat.ble pc 125 then (bif Nat.beq pc 125 then some (.iconst 0, 1) else none) else (bif Nat.ble pc 126 then (bif Nat.beq pc 126 then some (.istore 5, 2) else none) else (bif Nat.beq pc 128 then some (.iload 5, 2) else none)))) else (bif Nat.ble pc 140 then (bif Nat.ble pc 130 then (bif Nat.beq pc 130 then some (.aload 4, 2) else none) else (bif Nat.ble pc 137 then (bif Nat.beq pc 137 then some (.if_icmp .ge 203, 3) else none) else (bif Nat.beq pc 140 then some (.iload_n 2, 1) else none))) else (bif Nat.ble pc 143 then (bif Nat.beq pc 143 then some (.astore 6, 2) else none) else (bif Nat.ble pc 145 then (bif Nat.beq pc 145 then some (.aload 4, 2) else none) else (bif Nat.beq pc 147 then some (.iload 5, 2) else none))))) else (bif Nat.ble pc 165 then (bif Nat.ble pc 161 then (bif Nat.ble pc 157 then (bif Nat.beq pc 157 then some (.astore 7, 2) else none) else (bif Nat.ble pc 159 then (bif Nat.beq pc 159 then some (.aload 7, 2) else none) else (bif Nat.beq pc 161 then some (.arraylength, 1) else none))) else (bif Nat.ble pc 162 then (bif Nat.beq pc 162 then some (.istore 8, 2) else none) else (bif Nat.ble pc 164 then (bif Nat.beq pc 164 then some (.iconst 0, 1) else none) else (bif Nat.beq pc 165 then some (.istore 9, 2) else none)))) else (bif Nat.ble pc 171 then (bif Nat.ble pc 167 then (bif Nat.beq pc 167 then some (.iload 9, 2) else none) else (bif Nat.ble pc 169 then (bif Nat.beq pc 169 then some (.iload 8, 2) else none) else (bif Nat.beq pc 171 then some (.if_icmp .ge 22, 3) else none))) else (bif Nat.ble pc 174 then (bif Nat.beq pc 174 then some (.aload 7, 2) else none) else (bif Nat.ble pc 176 then (bif Nat.beq pc 176 then some (.iload 9, 2) else none) else (bif Nat.beq pc 178 then some (.iaload, 1) else none)))))) else (bif Nat.ble pc 200 then (bif Nat.ble pc 187 then (bif Nat.ble pc 183 then (bif Nat.ble pc 179 then (bif Nat.beq pc 179 then some (.istore 10, 2) else none) else (bif Nat.ble pc 181 then (bif Nat.beq pc 181 then some (.aload 6, 2) else none) else (bif Nat.beq pc 183 then some (.iload 10, 2) else none))) else (bif Nat.ble pc 185 then (bif Nat.beq pc 185 then some (.iconst 1, 1) else none) else (bif Nat.ble pc 186 then (bif Nat.beq pc 186 then some (.bastore, 1) else none) else (bif Nat.beq pc 187 then some (.iinc 9 1, 3) else none)))) else (bif Nat.ble pc 194 then (bif Nat.ble pc 190 then (bif Nat.beq pc 190 then some (.goto (-23), 3) else none) else (bif Nat.ble pc 193 then (bif Nat.beq pc 193 then some (.iconst 0, 1) else none) else (bif Nat.beq pc 194 then some (.istore 7, 2) else none))) else (bif Nat.ble pc 196 then (bif Nat.beq pc 196 then some (.iconst 2, 1) else none) else (bif Nat.ble pc 199 then (bif Nat.beq pc 199 then some (.dup, 1) else none) else (bif Nat.beq pc 200 then some (.iconst 0, 1) else none))))) else (bif Nat.ble pc 206 then (bif Nat.ble pc 203 then (bif Nat.ble pc 201 then (bif Nat.beq pc 201 then some (.iconst 1, 1) else none) else (bif Nat.ble pc 202 then (bif Nat.beq pc 202 then some (.bastore, 1) else none) else (bif Nat.beq pc 203 then some (.dup, 1) else none))) else (bif Nat.ble pc 204 then (bif Nat.beq pc 204 then some (.iconst 1, 1) else none) else (bif Nat.ble pc 205 then (bif Nat.beq pc 205 then some (.iconst 0, 1) else none) else (bif Nat.beq pc 206 then some (.bastore, 1) else none)))) else (bif Nat.ble pc 211 then (bif Nat.ble pc 207 then (bif Nat.beq pc 207 then some (.astore 8, 2) else none) else (bif Nat.ble pc 209 then (bif Nat.beq pc 209 then some (.aload 8, 2) else none) else (bif Nat.beq pc 211 then some (.arraylength, 1) else none))) else (bif Nat.ble pc 214 then (bif Nat.ble pc 212 then (bif Nat.beq pc 212 then some (.istore 9, 2) else none) else (bif Nat.beq pc 214 then some (.iconst 0, 1) else none)) else (bif Nat.ble pc 215 then (bif Nat.beq pc 215 then some (.istore 10, 2) else none) else (bif Nat.beq pc 217 then some (.iload 10, 2) else none)))))))) else (bif Nat.ble pc 296 then (bif Nat.ble pc 262 then (bif Nat.ble pc 240 then (bif Nat.ble pc 229 then (bif Nat.ble pc 224 then (bif Nat.ble pc 219 then (bif Nat.beq pc 219 then some (.iload 9, 2) else none) else (bif Nat.ble pc 221 then (bif Nat.beq pc 221 then some (.if_icmp .ge 113, 3) else none) else (bif Nat.beq pc 224 then some (.aload 8, 2) else none))) else (bif Nat.ble pc 226 then (bif Nat.beq pc 226 then some (.iload 10, 2) else none) else (bif Nat.ble pc 228 then (bif Nat.beq pc 228 then some (.baload, 1) else none) else (bif Nat.beq pc 229 then some (.istore 11, 2) else none)))) else (bif Nat.ble pc 234 then (bif Nat.ble pc 231 then (bif Nat.beq pc 231 then some (.iconst 0, 1) else none) else (bif Nat.ble pc 232 then (bif Nat.beq pc 232 then some (.istore 12, 2) else none) else (bif Nat.beq pc 234 then some (.iload 12, 2) else none))) else (bif Nat.ble pc 236 then (bif Nat.beq pc 236 then some (.iload_n 2, 1) else none) else (bif Nat.ble pc 237 then (bif Nat.beq pc 237 then some (.if_icmp .ge 91, 3) else none) else (bif Nat.beq pc 240 then some (.aload 6, 2) else none))))) else (bif Nat.ble pc 251 then (bif Nat.ble pc 245 then (bif Nat.ble pc 242 then (bif Nat.beq pc 242 then some (.iload 12, 2) else none) else (bif Nat.ble pc 244 then (bif Nat.beq pc 244 then some (.baload, 1) else none) else (bif Nat.beq pc 245 then some (.iload 11, 2) else none))) else (bif Nat.ble pc 247 then (bif Nat.beq pc 247 then some (.if_icmp .ne 75, 3) else none) else (bif Nat.ble pc 250 then (bif Nat.beq pc 250 then some (.aload_n 0, 1) else none) else (bif Nat.beq pc 251 then some (.getfield 26, 3) else none)))) else (bif Nat.ble pc 257 then (bif Nat.ble pc 254 then (bif Nat.beq pc 254 then some (.iload 5, 2) else none) else (bif Nat.ble pc 256 then (bif Nat.beq pc 256 then some (.aaload, 1) else none) else (bif Nat.beq pc 257 then some (.iload 7, 2) else none))) else (bif Nat.ble pc 259 then (bif Nat.beq pc 259 then some (.bipush 64, 2) else none) else (bif Nat.ble pc 261 then (bif Nat.beq pc 261 then some (.aload_n 3, 1) else none) else (bif Nat.beq pc 262 then some (.iload 12, 2) else none)))))) else (bif Nat.ble pc 279 then (bif Nat.ble pc 269 then (bif Nat.ble pc 266 then (bif Nat.ble pc 264 then (bif Nat.beq pc 264 then some (.iconst 1, 1) else none) else (bif Nat.ble pc 265 then (bif Nat.beq pc 265 then some (.iadd, 1) else none) else (bif Nat.beq pc 266 then some (.iaload, 1) else none))) else (bif Nat.ble pc 267 then (bif Nat.beq pc 267 then some (.isub, 1) else none) else (bif Nat.ble pc 268 then (bif Nat.beq pc 268 then some (.iastore, 1) else none) else (bif Nat.beq pc 269 then some (.aload_n 0, 1) else none)))) else (bif Nat.ble pc 275 then (bif Nat.ble pc 270 then (bif Nat.beq pc 270 then some (.getfield 29, 3) else none) else (bif Nat.ble pc 273 then (bif Nat.beq pc 273 then some (.iload 5, 2) else none) else (bif Nat.beq pc 275 then some (.aaload, 1) else none))) else (bif Nat.ble pc 276 then (bif Nat.beq pc 276 then some (.iload 7, 2) else none) else (bif Nat.ble pc 278 then (bif Nat.beq pc 278 then some (.aload_n 3, 1) else none) else (bif Nat.beq pc 279 then some (.iload 12, 2) else none))))) else (bif Nat.ble pc 287 then (bif Nat.ble pc 283 then (bif Nat.ble pc 281 then (bif Nat.beq pc 281 then some (.iconst 1, 1) else none) else (bif Nat.ble pc 282 then (bif Nat.beq pc 282 then some (.iadd, 1) else none) else (bif Nat.beq pc 283 then some (.iaload, 1) else none))) else (bif Nat.ble pc 284 then (bif Nat.beq pc 284 then some (.aload_n 3, 1) else none) else (bif Nat.ble pc 285 then (bif Nat.beq pc 285 then some (.iload 12, 2) else none) else (bif Nat.beq pc 287 then some (.iaload, 1) else none)))) else (bif Nat.ble pc 290 then (bif Nat.ble pc 288 then (bif Nat.beq pc 288 then some (.isub, 1) else none) else (bif Nat.ble pc 289 then (bif Nat.beq pc 289 then some (.iastore, 1) else none) else (bif Nat.beq pc 290 then some (.aload_n 0, 1) else none))) else (bif Nat.ble pc 291 then (bif Nat.beq pc 291 then some (.getfield 32, 3) else none) else (bif Nat.ble pc 294 then (bif Nat.beq pc 294 then some (.iload 5, 2) else none) else (bif Nat.beq pc 296 then some (.dup2, 1) else none))))))) else (bif Nat.ble pc 355 then (bif Nat.ble pc 317 then (bif Nat.ble pc 307 then (bif Nat.ble pc 300 then (bif Nat.ble pc 297 then (bif Nat.beq pc 297 then some (.iaload, 1) else none) else (bif Nat.ble pc 298 then (bif Nat.beq pc 298 then some (.iload 11, 2) else none) else (bif Nat.beq pc 300 then some (.ifCond .eq 16, 3) else none))) else (bif Nat.ble pc 303 then (bif Nat.beq pc 303 then some (.aload_n 0, 1) else none) else (bif Nat.ble pc 304 then (bif Nat.beq pc 304 then some (.getfield 29, 3) else none) else (bif Nat.beq pc 307 then some (.iload 5, 2) else none)))) else (bif Nat.ble pc 312 then (bif Nat.ble pc 309 then (bif Nat.beq pc 309 then some (.aaload, 1) else none) else (bif Nat.ble pc 310 then (bif Nat.beq pc 310 then some (.iload 7, 2) else none) else (bif Nat.beq pc 312 then some (.iaload, 1) else none))) else (bif Nat.ble pc 313 then (bif Nat.beq pc 313 then some (.goto 4, 3) else none) else (bif Nat.ble pc 316 then (bif Nat.beq pc 316 then some (.iconst 0, 1) else none) else (bif Nat.beq pc 317 then some (.iadd, 1) else none))))) else (bif Nat.ble pc 331 then (bif Nat.ble pc 322 then (bif Nat.ble pc 318 then (bif Nat.beq pc 318 then some (.iastore, 1) else none) else (bif Nat.ble pc 319 then (bif Nat.beq pc 319 then some (.iinc 7 1, 3) else none) else (bif Nat.beq pc 322 then some (.iinc 12 1, 3) else none))) else (bif Nat.ble pc 325 then (bif Nat.beq pc 325 then some (.goto (-91), 3) else none) else (bif Nat.ble pc 328 then (bif Nat.beq pc 328 then some (.iinc 10 1, 3) else none) else (bif Nat.beq pc 331 then some (.goto (-114), 3) else none)))) else (bif Nat.ble pc 340 then (bif Nat.ble pc 334 then (bif Nat.beq pc 334 then some (.iinc 5 1, 3) else none) else (bif Nat.ble pc 337 then (bif Nat.beq pc 337 then some (.goto (-209), 3) else none) else (bif Nat.beq pc 340 then some (.aload_n 0, 1) else none))) else (bif Nat.ble pc 341 then (bif Nat.beq pc 341 then some (.aload 4, 2) else none) else (bif Nat.ble pc 354 then (bif Nat.beq pc 354 then some (.iconst 0, 1) else none) else (bif Nat.beq pc 355 then some (.istore 5, 2) else none)))))) else (bif Nat.ble pc 387 then (bif Nat.ble pc 373 then (bif Nat.ble pc 366 then (bif Nat.ble pc 357 then (bif Nat.beq pc 357 then some (.iload 5, 2) else none) else (bif Nat.ble pc 359 then (bif Nat.beq pc 359 then some (.aload 4, 2) else none) else (bif Nat.beq pc 366 then some (.if_icmp .ge 58, 3) else none))) else (bif Nat.ble pc 369 then (bif Nat.beq pc 369 then some (.aload_n 0, 1) else none) else (bif Nat.ble pc 370 then (bif Nat.beq pc 370 then some (.getfield 43, 3) else none) else (bif Nat.beq pc 373 then some (.iload 5, 2) else none)))) else (bif Nat.ble pc 381 then (bif Nat.ble pc 375 then (bif Nat.beq pc 375 then some (.iload 5, 2) else none) else (bif Nat.ble pc 380 then (bif Nat.beq pc 380 then some (.iconst 0, 1) else none) else (bif Nat.beq pc 381 then some (.istore 6, 2) else none))) else (bif Nat.ble pc 383 then (bif Nat.beq pc 383 then some (.iload 6, 2) else none) else (bif Nat.ble pc 385 then (bif Nat.beq pc 385 then some (.iload 5, 2) else none) else (bif Nat.beq pc 387 then some (.if_icmp .ge 31, 3) else none))))) else (bif Nat.ble pc 399 then (bif Nat.ble pc 394 then (bif Nat.ble pc 390 then (bif Nat.beq pc 390 then some (.aload_n 0, 1) else none) else (bif Nat.ble pc 391 then (bif Nat.beq pc 391 then some (.getfield 43, 3) else none) else (bif Nat.beq pc 394 then some (.iload 5, 2) else none))) else (bif Nat.ble pc 396 then (bif Nat.beq pc 396 then some (.aaload, 1) else none) else (bif Nat.ble pc 397 then (bif Nat.beq pc 397 then some (.iload 6, 2) else none) else (bif Nat.beq pc 399 then some (.aload_n 0, 1) else none)))) else (bif Nat.ble pc 403 then (bif Nat.ble pc 400 then (bif Nat.beq pc 400 then some (.iload 5, 2) else none) else (bif Nat.ble pc 402 then (bif Nat.beq pc 402 then some (.aload_n 0, 1) else none) else (bif Nat.beq pc 403 then some (.iload 6, 2) else none))) else (bif Nat.ble pc 415 then (bif Nat.ble pc 412 then (bif Nat.beq pc 412 then some (.iinc 6 1, 3) else none) else (bif Nat.beq pc 415 then some (.goto (-32), 3) else none)) else (bif Nat.ble pc 418 then (bif Nat.beq pc 418 then some (.iinc 5 1, 3) else none) else (bif Nat.beq pc 421 then some (.goto (-64), 3) else none))))))))
theorem own_ok1 : ∀ pc q, own_fetch 425 own_t1 pc = some q → decode prog_28_method_1_code pc = .ok q := own_tab (by decide +kernel)
theorem d1_1 : decode prog_28_method_1_code 1 = .ok (.invokespecial 1, 3) := by decide +kernel
theorem d1_7 : decode prog_28_method_1_code 7 = .ok (.newarray .int, 2) := by decide +kernel
theorem d1_31 : decode prog_28_method_1_code 31 = .ok (.idiv, 1) := by decide +kernel
theorem d1_38 : decode prog_28_method_1_code 38 = .ok (.irem, 1) := by decide +kernel
theorem d1_55 : decode prog_28_method_1_code 55 = .ok (.new 9, 3) := by decide +kernel
theorem d1_59 : decode prog_28_method_1_code 59 = .ok (.invokespecial 11, 3) := by decide +kernel
theorem d1_72 : decode prog_28_method_1_code 72 = .ok (.newarray .int, 2) := by decide +kernel
theorem d1_77 : decode prog_28_method_1_code 77 = .ok (.invokestatic 12, 3) := by decide +kernel
theorem d1_83 : decode prog_28_method_1_code 83 = .ok (.invokeinterface 18 1, 5) := by decide +kernel
theorem d1_89 : decode prog_28_method_1_code 89 = .ok (.multianewarray 24 2, 4) := by decide +kernel
theorem d1_93 : decode prog_28_method_1_code 93 = .ok (.putfield 26, 3) := by decide +kernel
theorem d1_99 : decode prog_28_method_1_code 99 = .ok (.invokeinterface 18 1, 5) := by decide +kernel
theorem d1_105 : decode prog_28_method_1_code 105 = .ok (.multianewarray 24 2, 4) := by decide +kernel
theorem d1_109 : decode prog_28_method_1_code 109 = .ok (.putfield 29, 3) := by decide +kernel
theorem d1_115 : decode prog_28_method_1_code 115 = .ok (.invokeinterface 18 1, 5) := by decide +kernel
theorem d1_120 : decode prog_28_method_1_code 120 = .ok (.newarray .int, 2) := by decide +kernel
theorem d1_122 : decode prog_28_method_1_code 122 = .ok (.putfield 32, 3) := by decide +kernel
theorem d1_132 : decode prog_28_method_1_code 132 = .ok (.invokeinterface 18 1, 5) := by decide +kernel
theorem d1_141 : decode prog_28_method_1_code 141 = .ok (.newarray .boolean, 2) := by decide +kernel
theorem d1_149 : decode prog_28_method_1_code 149 = .ok (.invokeinterface 36 2, 5) := by decide +kernel
theorem d1_154 : decode prog_28_method_1_code 154 = .ok (.checkcast 40, 3) := by decide +kernel
theorem d1_197 : decode prog_28_method_1_code 197 = .ok (.newarray .boolean, 2) := by decide +kernel
theorem d1_343 : decode prog_28_method_1_code 343 = .ok (.invokeinterface 18 1, 5) := by decide +kernel
theorem d1_348 : decode prog_28_method_1_code 348 = .ok (.anewarray 41, 3) := by decide +kernel
theorem d1_351 : decode prog_28_method_1_code 351 = .ok (.putfield 43, 3) := by decide +kernel
theorem d1_361 : decode prog_28_method_1_code 361 = .ok (.invokeinterface 18 1, 5) := by decide +kernel
theorem d1_377 : decode prog_28_method_1_code 377 = .ok (.newarray .long, 2) := by decide +kernel
theorem d1_379 : decode prog_28_method_1_code 379 = .ok (.aastore, 1) := by decide +kernel
theorem d1_405 : decode prog_28_method_1_code 405 = .ok (.invokevirtual 47, 3) := by decide +kernel
theorem d1_408 : decode prog_28_method_1_code 408 = .ok (.invokevirtual 51, 3) := by decide +kernel
theorem d1_411 : decode prog_28_method_1_code 411 = .ok (.lastore, 1) := by decide +kernel
theorem d1_424 : decode prog_28_method_1_code 424 = .ok (.return_, 1) := by decide +kernel
def Q1a1 (Z : State) (b2 : Addr) (h0 : Heap) (n0 : Nat) (v : Option Value) (h : Heap) (L : List Loc) : Prop := ∃ (b67 : Addr) (k67 : ClassId) (x67a : Addr) (kc67 : ClassId) (x67b : Addr) (b75 : Addr) (k75 : ClassId) (x75a : Addr) (kc75 : ClassId) (x75b : Addr) (b84 : Addr) (k84 : ClassId) (b3 : Addr) (k3 : ClassId) (b4 : Addr) (k4 : ClassId) (b5 : Addr) (k5 : ClassId), v = none ∧ Fr n0 L ∧ Keep h0 h [b2] ∧ n0 ≤ b67 ∧ h0.size ≤ b67 ∧ n0 ≤ x67a ∧ h0.size ≤ x67a ∧ n0 ≤ x67b ∧ h0.size ≤ x67b ∧ n0 ≤ b75 ∧ h0.size ≤ b75 ∧ n0 ≤ x75a ∧ h0.size ≤ x75a ∧ n0 ≤ x75b ∧ h0.size ≤ x75b ∧ n0 ≤ b84 ∧ h0.size ≤ b84 ∧ n0 ≤ b3 ∧ h0.size ≤ b3 ∧ n0 ≤ b4 ∧ h0.size ≤ b4 ∧ n0 ≤ b5 ∧ h0.size ≤ b5 ∧ x67a ≠ b67 ∧ x67b ≠ b67 ∧ x67b ≠ x67a ∧ b75 ≠ b67 ∧ b75 ≠ x67a ∧ b75 ≠ x67b ∧ x75a ≠ b67 ∧ x75a ≠ x67a ∧ x75a ≠ x67b ∧ x75a ≠ b75 ∧ x75b ≠ b67 ∧ x75b ≠ x67a ∧ x75b ≠ x67b ∧ x75b ≠ b75 ∧ x75b ≠ x75a ∧ b84 ≠ b67 ∧ b84 ≠ x67a ∧ b84 ≠ x67b ∧ b84 ≠ b75 ∧ b84 ≠ x75a ∧ b84 ≠ x75b ∧ b3 ≠ b67 ∧ b3 ≠ x67a ∧ b3 ≠ x67b ∧ b3 ≠ b75 ∧ b3 ≠ x75a ∧ b3 ≠ x75b ∧ b3 ≠ b84 ∧ b4 ≠ b67 ∧ b4 ≠ x67a ∧ b4 ≠ x67b ∧ b4 ≠ b75 ∧ b4 ≠ x75a ∧ b4 ≠ x75b ∧ b4 ≠ b84 ∧ b4 ≠ b3 ∧ b5 ≠ b67 ∧ b5 ≠ x67a ∧ b5 ≠ x67b ∧ b5 ≠ b75 ∧ b5 ≠ x75a ∧ b5 ≠ x75b ∧ b5 ≠ b84 ∧ b5 ≠ b3 ∧ b5 ≠ b4 ∧ oF3 Z h b2 (.ref b67) ∧ oF4 Z h b2 (.ref b75) ∧ oF5 Z h b2 (.ref b84) ∧ oF6 Z h b2 (.ref b3) ∧ Arv Z h b67 k67 (.array .int) (2 : Int32) [(.ref x67a), (.ref x67b)] .null ∧ OvrA Z k67 .int "[I" ∧ Exa Z h b67 "[[I" ∧ Arv Z h x67a kc67 .int (2 : Int32) [(.int (32 : Int32)), (.int (0 : Int32))] (.int (0 : Int32)) ∧ Exa Z h x67a "[I" ∧ Arv Z h x67b kc67 .int (2 : Int32) [(.int (0 : Int32)), (.int (32 : Int32))] (.int (0 : Int32)) ∧ Exa Z h x67b "[I" ∧ Arv Z h b75 k75 (.array .int) (2 : Int32) [(.ref x75a), (.ref x75b)] .null ∧ OvrA Z k75 .int "[I" ∧ Exa Z h b75 "[[I" ∧ Arv Z h x75a kc75 .int (2 : Int32) [(.int (32 : Int32)), (.int (32 : Int32))] (.int (0 : Int32)) ∧ Exa Z h x75a "[I" ∧ Arv Z h x75b kc75 .int (2 : Int32) [(.int (32 : Int32)), (.int (32 : Int32))] (.int (0 : Int32)) ∧ Exa Z h x75b "[I" ∧ Arv Z h b84 k84 .int (2 : Int32) [(.int (32 : Int32)), (.int (32 : Int32))] (.int (0 : Int32)) ∧ Exa Z h b84 "[I" ∧ Arv Z h b3 k3 (.array .long) (2 : Int32) [(.ref b4), (.ref b5)] .null ∧ OvrA Z k3 .long "[J" ∧ Exa Z h b3 "[[J" ∧ Arv Z h b4 k4 .long (0 : Int32) [] (.long (0 : Int64)) ∧ Exa Z h b4 "[J" ∧ Arv Z h b5 k5 .long (1 : Int32) [(.long (4294967295 : Int64))] (.long (0 : Int64)) ∧ Exa Z h b5 "[J"
set_option maxRecDepth 65536 in
set_option maxHeartbeats 40000000 in
theorem rm1a1 (l : Launch) (Z : State) (a0 : Array Value) (hw : HW a0 Z) (ws : List Jvm.Cond) (b2 : Addr) (wd : Addr) (kd : ClassId) (h0 : Heap) (n0 : Nat) (Z0 : n0 ≤ h0.size) (PS0 : Sta Z h0 "java/util/ArrayList" "DEFAULTCAPACITY_EMPTY_ELEMENTDATA" "[Ljava/lang/Object;" (.ref wd)) (PV1 : Arv Z h0 wd kd (.object "java/lang/Object") (0 : Int32) [] .null) (PE2 : Exa Z h0 b2 "com/example/libakin/libakin/simhash/Layout") (PF3 : oF3 Z h0 b2 .null) (PF4 : oF4 Z h0 b2 .null) (PF5 : oF5 Z h0 b2 .null) (PF6 : oF6 Z h0 b2 .null) (n_b2 : n0 ≤ b2) :
    own_Met l mn19 prog_28_method_1_code 13 none ws (oRm 7 20 44 105) #[(.ref b2), (.int (1 : Int32)), (.int (2 : Int32))] Z h0 (Q1a1 Z b2 h0 n0) := by
  refine own_met (own := "com/example/libakin/libakin/simhash/Layout") rfl (plainFor_of_name pn_0) ?_
  intro p e s m below meth c s₁ hx hby hml hZ hown hnm X0 e0 Br Bs
  have N0 := Fr.nil n0
  have tt := own_tt hx hby own_ok1
  show own_Ends p e below s _ _ _ s₁ (mkF m 0 #[oR b2, oI 1, oI 2, oU, oU, oU, oU, oU, oU, oU, oU, oU, oU] [])
  refine own_go (T' := s₁) (f' := (mkF m 1 #[oR b2, oI 1, oI 2, oU, oU, oU, oU, oU, oU, oU, oU, oU, oU] [vR b2])) (fun _ k => own_e X0 tt 0 1 k rfl) ?_
  obtain ⟨T3, X3, e3, st3⟩ := initO X0 hx hZ hown (ow6 hw) (ow7 hw) (ow8 hw) e0 (g := (mkF m 1 #[oR b2, oI 1, oI 2, oU, oU, oU, oU, oU, oU, oU, oU, oU, oU] [vR b2])) rfl (by rw [hml]; rfl) rfl (hb hby d1_1) (by decide) (W := 0) (by show 2 * 0 + _ ≤ _; exact Nat.le_of_eq rfl) (by decide)
  refine own_go (T' := T3) (f' := (mkF m 7 #[oR b2, oI 1, oI 2, oU, oU, oU, oU, oU, oU, oU, oU, oU, oU] [vI 3])) (fun _ k => st3 _ (own_e X3 tt 4 3 k rfl)) ?_
  obtain ⟨T4, h4, k4, X4, e4, E4, A4, EA4, st4⟩ := newPE (aty := .int) X3 hx hZ (ow9 hw) e3 (g := (mkF m 7 #[oR b2, oI 1, oI 2, oU, oU, oU, oU, oU, oU, oU, oU, oU, oU] [vI 3])) rfl (hb hby d1_7) rfl (by decide) (cap := 3) (by decide) (by decide) (by decide) (by decide) (ad := "[I") (by decide +kernel)
  obtain ⟨b4, g_b4⟩ : ∃ z, z = h0.size := ⟨_, rfl⟩
  have sg_b4 : h0.size ≤ b4 := Nat.le_of_eq g_b4.symm
  rw [← g_b4] at A4 EA4 st4
  have n_b4 := oT Z0 sg_b4
  have sz_b4 := oT (Keep.refl h0 [b2]).1 sg_b4
  have K4 : Keep h0 h4 [b2] := (Keep.refl h0 [b2]).ext E4
  have V_b4 : Arv Z h4 b4 k4 .int (3 : Int32) [(.int (0 : Int32)), (.int (0 : Int32)), (.int (0 : Int32))] (.int (0 : Int32)) := (Arv.new A4 (by decide)).pad (pad_rep [] (.int (0 : Int32)) 3)
  refine own_go (T' := T4) (f' := (mkF m 9 #[oR b2, oI 1, oI 2, oU, oU, oU, oU, oU, oU, oU, oU, oU, oU] [vR b4])) (fun _ k => st4 _ k) ?_
  refine own_mrun2 (a0 := a0) (as := [b2, b4]) (kc := [0, k4]) (fl := []) (cl := []) (wl := []) (ks := [1]) (na := 2) (ls := [oR 0, oI 1, oI 2, oU, oU, oU, oU, oU, oU, oU, oU, oU, oU]) (st := [vR 1]) (me := [(1, .int, 3, [vI 0, vI 0, vI 0])]) (pc' := 31) (ls' := [oR 0, oI 1, oI 2, oR 1, oI 0, oU, oU, oU, oU, oU, oU, oU, oU]) (st' := [vI 2, vI 64, vI 0, vI 1, vR 1]) (ups := []) tt hZ hown X4 N0 e4 trivial trivial trivial (oA V_b4 trivial) (Or.inl rfl) trivial rfl rfl (by decide +kernel) 15 (by decide +kernel) fun T5 h5 _ X5 N5 e5 K5 q5 M5 => ?_
  have e5 := e5.trans (q5 rfl)
  show own_Ends p e below s _ _ _ T5 (mkF m 31 #[oR b2, oI 1, oI 2, oR b4, oI 0, oU, oU, oU, oU, oU, oU, oU, oU] [vI 2, vI 64, vI 0, vI 1, vR b4])
  refine own_go (T' := T5) (f' := (mkF m 38 #[oR b2, oI 1, oI 2, oR b4, oI 0, oU, oU, oU, oU, oU, oU, oU, oU] [vI 2, vI 64, vI 0, vI 32, vI 1, vR b4])) (fun _ k => XS.idiv X5.here hx rfl (hb hby d1_31) rfl (by decide) (own_e X5 tt 32 4 k rfl)) ?_
  refine own_go (T' := T5) (f' := (mkF m 39 #[oR b2, oI 1, oI 2, oR b4, oI 0, oU, oU, oU, oU, oU, oU, oU, oU] [vI 0, vI 0, vI 32, vI 1, vR b4])) (fun _ k => iremM X5 hx rfl (hb hby d1_38) rfl (by decide) k) ?_
  have l6 : b2 < b4 := oW PE2.lt sz_b4
  refine own_mrun2 (a0 := a0) (as := [b2, b4]) (kc := [0, k4]) (fl := []) (cl := []) (wl := [1]) (ks := [1]) (na := 2) (ls := [oR 0, oI 1, oI 2, oR 1, oI 0, oU, oU, oU, oU, oU, oU, oU, oU]) (st := [vI 0, vI 0, vI 32, vI 1, vR 1]) (me := [(1, .int, 3, [vI 0, vI 0, vI 0])]) (pc' := 31) (ls' := [oR 0, oI 1, oI 2, oR 1, oI 1, oU, oU, oU, oU, oU, oU, oU, oU]) (st' := [vI 2, vI 64, vI 32, vI 2, vR 1]) (ups := [(1, [vI 0, vI 32, vI 0])]) tt hZ hown X5 N5 e5 trivial trivial trivial (oA V_b4 trivial) (Or.inr (oA l6 trivial)) (oA n_b4 trivial) rfl rfl (by decide +kernel) 18 (by decide +kernel) fun T7 h7 _ X7 N7 e7 K7 q7 M7 => ?_
  have Kq7 : Keep h4 h7 [b4] := K7
  have KK7 : Keep h0 h7 [b2] := Keep.trans K4 Kq7 (allS (Or.inr sz_b4) all0)
  obtain ⟨v7_0, -⟩ := M7
  have V7_0 : Arv Z h7 b4 k4 .int (3 : Int32) [(.int (0 : Int32)), (.int (32 : Int32)), (.int (0 : Int32))] (.int (0 : Int32)) := v7_0
  show own_Ends p e below s _ _ _ T7 (mkF m 31 #[oR b2, oI 1, oI 2, oR b4, oI 1, oU, oU, oU, oU, oU, oU, oU, oU] [vI 2, vI 64, vI 32, vI 2, vR b4])
  refine own_go (T' := T7) (f' := (mkF m 38 #[oR b2, oI 1, oI 2, oR b4, oI 1, oU, oU, oU, oU, oU, oU, oU, oU] [vI 2, vI 64, vI 1, vI 64, vI 2, vR b4])) (fun _ k => XS.idiv X7.here hx rfl (hb hby d1_31) rfl (by decide) (own_e X7 tt 32 4 k rfl)) ?_
  refine own_go (T' := T7) (f' := (mkF m 39 #[oR b2, oI 1, oI 2, oR b4, oI 1, oU, oU, oU, oU, oU, oU, oU, oU] [vI 0, vI 1, vI 64, vI 2, vR b4])) (fun _ k => iremM X7 hx rfl (hb hby d1_38) rfl (by decide) k) ?_
  refine own_mrun2 (a0 := a0) (as := [b2, b4]) (kc := [0, k4]) (fl := []) (cl := []) (wl := [1]) (ks := [1]) (na := 2) (ls := [oR 0, oI 1, oI 2, oR 1, oI 1, oU, oU, oU, oU, oU, oU, oU, oU]) (st := [vI 0, vI 1, vI 64, vI 2, vR 1]) (me := [(1, .int, 3, [vI 0, vI 32, vI 0])]) (pc' := 55) (ls' := [oR 0, oI 1, oI 2, oR 1, oI 2, oU, oU, oU, oU, oU, oU, oU, oU]) (st' := []) (ups := [(1, [vI 0, vI 32, vI 64])]) tt hZ hown X7 N7 e7 trivial trivial trivial (oA V7_0 trivial) (Or.inr (oA l6 trivial)) (oA n_b4 trivial) rfl rfl (by decide +kernel) 9 (by decide +kernel) fun T8 h8 _ X8 N8 e8 K8 q8 M8 => ?_
  have Kq8 : Keep h7 h8 [b4] := K8
  have KK8 : Keep h0 h8 [b2] := Keep.trans KK7 Kq8 (allS (Or.inr sz_b4) all0)
  obtain ⟨v8_0, -⟩ := M8
  have V8_0 : Arv Z h8 b4 k4 .int (3 : Int32) [(.int (0 : Int32)), (.int (32 : Int32)), (.int (64 : Int32))] (.int (0 : Int32)) := v8_0
  show own_Ends p e below s _ _ _ T8 (mkF m 55 #[oR b2, oI 1, oI 2, oR b4, oI 2, oU, oU, oU, oU, oU, oU, oU, oU] [])
  obtain ⟨T9, h9, X9, e9, E9, A9, D9, -, st9⟩ := newO X8 hx hZ hown (ow10 hw) (ow11 hw) (ow12 hw) e8 (g := (mkF m 55 #[oR b2, oI 1, oI 2, oR b4, oI 2, oU, oU, oU, oU, oU, oU, oU, oU] [])) rfl (hb hby d1_55) (by decide) (by decide)
  obtain ⟨b9, g_b9⟩ : ∃ z, z = h8.size := ⟨_, rfl⟩
  have sg_b9 : h8.size ≤ b9 := Nat.le_of_eq g_b9.symm
  rw [← g_b9] at A9 D9 st9
  have n_b9 := oT (oT (oT (oT Z0 E4.1) Kq7.1) Kq8.1) sg_b9
  have sz_b9 := oT KK8.1 sg_b9
  have u10 := (oW (oW V_b4.lt Kq7.1) Kq8.1)
  have m11 : h0.size ≤ h8.size := (oT (oT (oT (Nat.le_refl _) E4.1) Kq7.1) Kq8.1)
  have K9 : Keep h0 h9 [b2] := KK8.ext E9
  have F_modCount_b9 : oF0 Z h9 b9 (.int (0 : Int32)) := D9 (Or.inl (ow30 hw)) (ty := .int) (by decide)
  have F_elementData_b9 : oF1 Z h9 b9 .null := D9 (Or.inl (ow33 hw)) (ty := (.array (.object "java/lang/Object"))) (by decide)
  have F_size_b9 : oF2 Z h9 b9 (.int (0 : Int32)) := D9 (Or.inl (ow58 hw)) (ty := .int) (by decide)
  refine own_go (T' := T9) (f' := (mkF m 59 #[oR b2, oI 1, oI 2, oR b4, oI 2, oU, oU, oU, oU, oU, oU, oU, oU] [vR b9, vR b9])) (fun _ k => st9 _ (own_e X9 tt 58 1 k rfl)) ?_
  obtain ⟨_, T18, Lc18, X18, hQ18, st18⟩ := own_out (X9.specialBack hx (y := mn2) rfl hown (mvT hZ (ow13 hw)) (mvT hZ (ow14 hw)) (mvT hZ (ow15 hw)) (by decide) (backOf (W := 1) (rm3a2 l Z a0 hw [] b9 wd h9 n0 (oT (oT (oT (oT Z0 E4.1) Kq7.1) Kq8.1) E9.1) ((own_sta_keep (own_sta_keep (PS0.ext E4) Kq7 (own_wsV V_b4 own_ws0)) Kq8 (own_wsV V7_0 own_ws0)).ext E9) A9 F_modCount_b9 F_elementData_b9 F_size_b9 n_b9) hZ (ow15 hw) (ow12 hw) (by decide) (by decide)) (g := (mkF m 59 #[oR b2, oI 1, oI 2, oR b4, oI 2, oU, oU, oU, oU, oU, oU, oU, oU] [vR b9, vR b9])) rfl (by rw [hml]; rfl) (Steps.refl _) (a := b9) (argsL := []) (rest := [(.ref b9)]) (lenOf pd2 rfl) rfl (by show 2 * 0 + _ ≤ _; exact Nat.le_of_eq rfl) (hb hby d1_59) (fun _ _ => ⟨rfl, e9, (by decide : 2 + 0 ≤ _), (by decide : 6 + 0 ≤ _)⟩))
  obtain ⟨rfl, N18q, K18, g18_0, g18_1, g18_2⟩ := hQ18
  have N18 := Fr.app N8 N18q
  have eK18 : T18.heap = T18.heap := rfl
  have KK18 : Keep h0 T18.heap [b2] := Keep.trans K9 K18 (allS (Or.inr sz_b9) all0)
  obtain ⟨_, X18, N18⟩ := own_hide X18 N18
  refine own_go (T' := T18) (f' := (mkF m 72 #[oR b2, oI 1, oI 2, oR b4, oR b9, oU, oU, oU, oU, oU, oU, oU, oU] [vI 1, vI 0, vI 1, vI 2])) (fun _ k => st18.trans (own_e X18 tt 62 9 k rfl)) ?_
  obtain ⟨T19, h19, k19, X19, e19, E19, A19, EA19, st19⟩ := newPE (aty := .int) X18 hx hZ (ow9 hw) eK18 (g := (mkF m 72 #[oR b2, oI 1, oI 2, oR b4, oR b9, oU, oU, oU, oU, oU, oU, oU, oU] [vI 1, vI 0, vI 1, vI 2])) rfl (hb hby d1_72) rfl (by decide) (cap := 1) (by decide) (by decide) (by decide) (by decide) (ad := "[I") (by decide +kernel)
  obtain ⟨b19, g_b19⟩ : ∃ z, z = T18.heap.size := ⟨_, rfl⟩
  have sg_b19 : T18.heap.size ≤ b19 := Nat.le_of_eq g_b19.symm
  rw [← g_b19] at A19 EA19 st19
  have n_b19 := oT (oT (oT (oT (oT (oT Z0 E4.1) Kq7.1) Kq8.1) E9.1) K18.1) sg_b19
  have sz_b19 := oT KK18.1 sg_b19
  have u20 := (oW A9.lt K18.1)
  have m21 : h8.size ≤ T18.heap.size := (oT (oT (Nat.le_refl _) E9.1) K18.1)
  have K19 : Keep h0 h19 [b2] := KK18.ext E19
  have V_b19 : Arv Z h19 b19 k19 .int (1 : Int32) [(.int (0 : Int32))] (.int (0 : Int32)) := (Arv.new A19 (by decide)).pad (pad_rep [] (.int (0 : Int32)) 1)
  refine own_go (T' := T19) (f' := (mkF m 77 #[oR b2, oI 1, oI 2, oR b4, oR b9, oU, oU, oU, oU, oU, oU, oU, oU] [vR b9, vI 0, vR b19, vI 0, vI 1, vI 2])) (fun _ k => st19 _ (own_e X19 tt 74 2 k rfl)) ?_
  have G60 := ((own_sta_keep ((own_sta_keep (own_sta_keep (PS0.ext E4) Kq7 (own_wsV V_b4 own_ws0)) Kq8 (own_wsV V7_0 own_ws0)).ext E9) K18 (own_wsE A9 own_ws0)).ext E19)
  have G61 := ((((((PV1.ext E4).keep Kq7 (ninS (oL PV1.lt sz_b4) nin0)).keep Kq8 (ninS (oL PV1.lt sz_b4) nin0)).ext E9).keep K18 (ninS (oL PV1.lt sz_b9) nin0)).ext E19)
  have Zs62 : n0 ≤ h19.size := (oT (oT (oT (oT (oT (oT Z0 E4.1) Kq7.1) Kq8.1) E9.1) K18.1) E19.1)
  obtain ⟨_, T59, Lc59, X59, hQ59, st59⟩ := own_outC (Jvm.LawKit.callS X19 hx (y := mn9) hown (mvT hZ (ow34 hw)) (mvT hZ (ow35 hw)) (mvT hZ (ow2 hw)) (mvT hZ (ow36 hw)) (by decide) (backOf (W := 0) (rm6a5 l Z a0 hw [] b19 b9 wd kd k19 h19 n0 Zs62 G60 G61 ((A9.keep K18).ext E19) (g18_0.ext E19) (g18_1.ext E19) (g18_2.ext E19) V_b19 EA19 (oL PV1.lt sz_b9) (oL PV1.lt sz_b19) (oL u20 sg_b19) (oM u20 sg_b19) n_b19 n_b9) hZ (ow36 hw) (ow2 hw) (by decide) (by decide)) (g := (mkF m 77 #[oR b2, oI 1, oI 2, oR b4, oR b9, oU, oU, oU, oU, oU, oU, oU, oU] [vR b9, vI 0, vR b19, vI 0, vI 1, vI 2])) rfl (by rw [hml]; rfl) (argsL := [(.int (2 : Int32)), (.int (1 : Int32)), (.int (0 : Int32)), (.ref b19), (.int (0 : Int32)), (.ref b9)]) (rest := []) (lenOf pd9 rfl) rfl (by show 2 * 0 + _ ≤ _; exact Nat.le_of_eq rfl) (hb hby d1_77) (fun _ _ => ⟨rfl, e19, (by decide : 3 + 3 ≤ _), (by decide : 7 + 12 ≤ _)⟩))
  obtain ⟨b59a, k59b, b59c, b59d, rfl, N59q, K59, n_b59a, sg_b59a, n_b59c, sg_b59c, n_b59d, sg_b59d, ne59_0, ne59_1, ne59_2, g59_0, g59_1, g59_2, g59_3, g59_4, g59_5, g59_6, g59_7, g59_8, g59_9⟩ := hQ59
  have N59 := Fr.app N18 N59q
  have sz_b59a := oT K19.1 sg_b59a
  have sz_b59c := oT K19.1 sg_b59c
  have sz_b59d := oT K19.1 sg_b59d
  have u63 : b19 < h19.size := V_b19.lt
  have m64 : T18.heap.size ≤ h19.size := (oT (Nat.le_refl _) E19.1)
  have eK59 : T59.heap = T59.heap := rfl
  have KK59 : Keep h0 T59.heap [b2] := Keep.trans K19 K59 (allS (Or.inr sz_b19) (allS (Or.inr sz_b9) all0))
  obtain ⟨_, X59, N59⟩ := own_hide X59 N59
  refine own_go (T' := T59) (f' := (mkF m 83 #[oR b2, oI 1, oI 2, oR b4, oR b9, oU, oU, oU, oU, oU, oU, oU, oU] [vR b9, vR b2])) (fun _ k => st59 _ (own_e X59 tt 80 2 k rfl)) ?_
  obtain ⟨cq66, kq66, q66a, q66b, q66c⟩ := isOf hZ eK59 (((A9.keep K18).ext E19).keep K59)
  obtain ⟨_, T66, Lc66, X66, hQ66, st66⟩ := own_out (X59.interfaceBack hx (xi := mn11) (y := mn10) hown (mvT hZ (ow81 hw)) (mvT hZ (ow82 hw)) (mvT hZ (ow83 hw)) (mvT hZ (ow84 hw)) (mvT hZ (ow85 hw)) (mvT hZ (ow86 hw)) (mvT hZ (ow87 hw)) (mvT hZ (ow53 hw)) (by decide) (backOf (W := 1) (rm12a15 l Z a0 hw [] b9 T59.heap n0 (oT Zs62 K59.1) g59_3) hZ (ow88 hw) (ow12 hw) (by decide) (by decide)) q66a q66b q66c (g := (mkF m 83 #[oR b2, oI 1, oI 2, oR b4, oR b9, oU, oU, oU, oU, oU, oU, oU, oU] [vR b9, vR b2])) rfl (by rw [hml]; rfl) (Steps.refl _) (argsL := []) (rest := [(.ref b2)]) (lenOf pd0 rfl) rfl (by show 2 * 0 + _ ≤ _; exact Nat.le_of_eq rfl) (hb hby d1_83) (fun _ _ => ⟨rfl, eK59, (by decide : 6 + 0 ≤ _), (by decide : 19 + 0 ≤ _)⟩))
  obtain ⟨rfl, N66q, hh66⟩ := hQ66
  have N66 := Fr.app N59 N66q
  obtain ⟨_, X66, N66⟩ := own_hide X66 N66
  refine own_go (T' := T66) (f' := (mkF m 89 #[oR b2, oI 1, oI 2, oR b4, oR b9, oU, oU, oU, oU, oU, oU, oU, oU] [vI 2, vI 2, vR b2])) (fun _ k => st66.trans (own_e X66 tt 88 1 k rfl)) ?_
  obtain ⟨T67, h67, k67, kc67, X67, e67, E67, A67, O67, EA67, I67, st67⟩ := gridM X66 hx hZ (C := "[I") (ad := "[[I") (ty := .int) hown (by decide +kernel) (by decide +kernel) (ow89 hw) (ow90 hw) (ow9 hw) hh66 (g := (mkF m 89 #[oR b2, oI 1, oI 2, oR b4, oR b9, oU, oU, oU, oU, oU, oU, oU, oU] [vI 2, vI 2, vR b2])) rfl (hb hby d1_89) rfl (by decide) (by decide) (N := 2) (by decide) rfl (cap := 2) (by decide) (by decide) (by decide) rfl rfl (by decide) (by decide)
  obtain ⟨b67, g_b67⟩ : ∃ z, z = T59.heap.size := ⟨_, rfl⟩
  obtain ⟨x67a, g_x67a⟩ : ∃ z, z = T59.heap.size + 1 + 0 := ⟨_, rfl⟩
  obtain ⟨x67b, g_x67b⟩ : ∃ z, z = T59.heap.size + 1 + 1 := ⟨_, rfl⟩
  have sg_b67 : T59.heap.size ≤ b67 := by omega
  have n_b67 := oT (oT Zs62 K59.1) sg_b67
  have sz_b67 := oT KK59.1 sg_b67
  have sg_x67a : T59.heap.size ≤ x67a := by omega
  have n_x67a := oT (oT Zs62 K59.1) sg_x67a
  have sz_x67a := oT KK59.1 sg_x67a
  have sg_x67b : T59.heap.size ≤ x67b := by omega
  have n_x67b := oT (oT Zs62 K59.1) sg_x67b
  have sz_x67b := oT KK59.1 sg_x67b
  have u68 : b59a < T59.heap.size := g59_4.lt
  have u69 : b59c < T59.heap.size := g59_6.lt
  have u70 : b59d < T59.heap.size := g59_8.lt
  have m71 : h19.size ≤ T59.heap.size := (oT (Nat.le_refl _) K59.1)
  have nn_x67a_b67 : x67a ≠ b67 := by omega
  have nn_x67b_b67 : x67b ≠ b67 := by omega
  have nn_x67b_x67a : x67b ≠ x67a := by omega
  have K67 : Keep h0 h67 [b2] := KK59.ext E67
  have V_b67 : Arv Z h67 b67 k67 (.array .int) (2 : Int32) [(.ref x67a), (.ref x67b)] .null := by rw [g_b67, g_x67a, g_x67b]; exact A67
  have EE_b67 : Exa Z h67 b67 "[[I" := by rw [g_b67]; exact EA67
  have V_x67a : Arv Z h67 x67a kc67 .int (2 : Int32) [(.int (0 : Int32)), (.int (0 : Int32))] (.int (0 : Int32)) := by rw [g_x67a]; exact (Arv.new (I67 0 _ rfl).1 (by decide)).pad (pad_rep [] (.int (0 : Int32)) 2)
  have EE_x67a : Exa Z h67 x67a "[I" := by rw [g_x67a]; exact (I67 0 _ rfl).2
  have V_x67b : Arv Z h67 x67b kc67 .int (2 : Int32) [(.int (0 : Int32)), (.int (0 : Int32))] (.int (0 : Int32)) := by rw [g_x67b]; exact (Arv.new (I67 1 _ rfl).1 (by decide)).pad (pad_rep [] (.int (0 : Int32)) 2)
  have EE_x67b : Exa Z h67 x67b "[I" := by rw [g_x67b]; exact (I67 1 _ rfl).2
  rw [← g_b67] at st67
  refine own_go (T' := T67) (f' := (mkF m 93 #[oR b2, oI 1, oI 2, oR b4, oR b9, oU, oU, oU, oU, oU, oU, oU, oU] [vR b67, vR b2])) (fun _ k => st67 _ k) ?_
  have G72 := ((((((((PF3.ext E4).keep Kq7 (ninS (oL PE2.lt sz_b4) nin0)).keep Kq8 (ninS (oL PE2.lt sz_b4) nin0)).ext E9).keep K18 (ninS (oL PE2.lt sz_b9) nin0)).ext E19).keep K59 (ninS (oL PE2.lt sz_b19) (ninS (oL PE2.lt sz_b9) nin0))).ext E67)
  obtain ⟨T73, h73, X73, e73, W73, st73⟩ := putF X67 hx hZ hown (host := "") (Or.inl (ow91 hw)) Via.refl e67 G72 ((((((((PE2.ext E4).keep Kq7).keep Kq8).ext E9).keep K18).ext E19).keep K59).ext E67) (Or.inr ⟨(ow92 hw), rfl, hnm⟩) (ow1 hw) (ty := (.array (.array .int))) (by decide) rfl rfl (g := (mkF m 93 #[oR b2, oI 1, oI 2, oR b4, oR b9, oU, oU, oU, oU, oU, oU, oU, oU] [vR b67, vR b2])) rfl rfl (hb hby d1_93)
  have Fw73 := Fld.same W73 G72
  have K73 : Keep h0 h73 [b2] := K67.wr W73 (Or.inl (List.mem_of_getElem? (i := 0) rfl))
  have N73 := Fr.snoc X73 N66 n_b2
  refine own_go (T' := T73) (f' := (mkF m 99 #[oR b2, oI 1, oI 2, oR b4, oR b9, oU, oU, oU, oU, oU, oU, oU, oU] [vR b9, vR b2])) (fun _ k => st73 _ (own_e X73 tt 96 2 k rfl)) ?_
  obtain ⟨cq74, kq74, q74a, q74b, q74c⟩ := isOf hZ e73 (((((A9.keep K18).ext E19).keep K59).ext E67).wr W73)
  obtain ⟨_, T74, Lc74, X74, hQ74, st74⟩ := own_out (X73.interfaceBack hx (xi := mn11) (y := mn10) hown (mvT hZ (ow81 hw)) (mvT hZ (ow82 hw)) (mvT hZ (ow83 hw)) (mvT hZ (ow84 hw)) (mvT hZ (ow85 hw)) (mvT hZ (ow86 hw)) (mvT hZ (ow87 hw)) (mvT hZ (ow53 hw)) (by decide) (backOf (W := 1) (rm12a15 l Z a0 hw [] b9 h73 n0 (oT (oT (oT Zs62 K59.1) E67.1) (Keep.of_wr W73).1) ((g59_3.ext E67).other W73 (Or.inl (oM PE2.lt sz_b9)))) hZ (ow88 hw) (ow12 hw) (by decide) (by decide)) q74a q74b q74c (g := (mkF m 99 #[oR b2, oI 1, oI 2, oR b4, oR b9, oU, oU, oU, oU, oU, oU, oU, oU] [vR b9, vR b2])) rfl (by rw [hml]; rfl) (Steps.refl _) (argsL := []) (rest := [(.ref b2)]) (lenOf pd0 rfl) rfl (by show 2 * 0 + _ ≤ _; exact Nat.le_of_eq rfl) (hb hby d1_99) (fun _ _ => ⟨rfl, e73, (by decide : 9 + 0 ≤ _), (by decide : 25 + 0 ≤ _)⟩))
  obtain ⟨rfl, N74q, hh74⟩ := hQ74
  have N74 := Fr.app N73 N74q
  obtain ⟨_, X74, N74⟩ := own_hide X74 N74
  refine own_go (T' := T74) (f' := (mkF m 105 #[oR b2, oI 1, oI 2, oR b4, oR b9, oU, oU, oU, oU, oU, oU, oU, oU] [vI 2, vI 2, vR b2])) (fun _ k => st74.trans (own_e X74 tt 104 1 k rfl)) ?_
  obtain ⟨T75, h75, k75, kc75, X75, e75, E75, A75, O75, EA75, I75, st75⟩ := gridM X74 hx hZ (C := "[I") (ad := "[[I") (ty := .int) hown (by decide +kernel) (by decide +kernel) (ow89 hw) (ow90 hw) (ow9 hw) hh74 (g := (mkF m 105 #[oR b2, oI 1, oI 2, oR b4, oR b9, oU, oU, oU, oU, oU, oU, oU, oU] [vI 2, vI 2, vR b2])) rfl (hb hby d1_105) rfl (by decide) (by decide) (N := 2) (by decide) rfl (cap := 2) (by decide) (by decide) (by decide) rfl rfl (by decide) (by decide)
  obtain ⟨b75, g_b75⟩ : ∃ z, z = h73.size := ⟨_, rfl⟩
  obtain ⟨x75a, g_x75a⟩ : ∃ z, z = h73.size + 1 + 0 := ⟨_, rfl⟩
  obtain ⟨x75b, g_x75b⟩ : ∃ z, z = h73.size + 1 + 1 := ⟨_, rfl⟩
  have sg_b75 : h73.size ≤ b75 := by omega
  have n_b75 := oT (oT (oT (oT Zs62 K59.1) E67.1) (Keep.of_wr W73).1) sg_b75
  have sz_b75 := oT K73.1 sg_b75
  have sg_x75a : h73.size ≤ x75a := by omega
  have n_x75a := oT (oT (oT (oT Zs62 K59.1) E67.1) (Keep.of_wr W73).1) sg_x75a
  have sz_x75a := oT K73.1 sg_x75a
  have sg_x75b : h73.size ≤ x75b := by omega
  have n_x75b := oT (oT (oT (oT Zs62 K59.1) E67.1) (Keep.of_wr W73).1) sg_x75b
  have sz_x75b := oT K73.1 sg_x75b
  have u76 := (oW V_b67.lt (Keep.of_wr W73).1)
  have u77 := (oW V_x67a.lt (Keep.of_wr W73).1)
  have u78 := (oW V_x67b.lt (Keep.of_wr W73).1)
  have m79 : T59.heap.size ≤ h73.size := (oT (oT (Nat.le_refl _) E67.1) (Keep.of_wr W73).1)
  have nn_x75a_b75 : x75a ≠ b75 := by omega
  have nn_x75b_b75 : x75b ≠ b75 := by omega
  have nn_x75b_x75a : x75b ≠ x75a := by omega
  have K75 : Keep h0 h75 [b2] := K73.ext E75
  have V_b75 : Arv Z h75 b75 k75 (.array .int) (2 : Int32) [(.ref x75a), (.ref x75b)] .null := by rw [g_b75, g_x75a, g_x75b]; exact A75
  have EE_b75 : Exa Z h75 b75 "[[I" := by rw [g_b75]; exact EA75
  have V_x75a : Arv Z h75 x75a kc75 .int (2 : Int32) [(.int (0 : Int32)), (.int (0 : Int32))] (.int (0 : Int32)) := by rw [g_x75a]; exact (Arv.new (I75 0 _ rfl).1 (by decide)).pad (pad_rep [] (.int (0 : Int32)) 2)
  have EE_x75a : Exa Z h75 x75a "[I" := by rw [g_x75a]; exact (I75 0 _ rfl).2
  have V_x75b : Arv Z h75 x75b kc75 .int (2 : Int32) [(.int (0 : Int32)), (.int (0 : Int32))] (.int (0 : Int32)) := by rw [g_x75b]; exact (Arv.new (I75 1 _ rfl).1 (by decide)).pad (pad_rep [] (.int (0 : Int32)) 2)
  have EE_x75b : Exa Z h75 x75b "[I" := by rw [g_x75b]; exact (I75 1 _ rfl).2
  rw [← g_b75] at st75
  refine own_go (T' := T75) (f' := (mkF m 109 #[oR b2, oI 1, oI 2, oR b4, oR b9, oU, oU, oU, oU, oU, oU, oU, oU] [vR b75, vR b2])) (fun _ k => st75 _ k) ?_
  have G80 := ((((((((((PF4.ext E4).keep Kq7 (ninS (oL PE2.lt sz_b4) nin0)).keep Kq8 (ninS (oL PE2.lt sz_b4) nin0)).ext E9).keep K18 (ninS (oL PE2.lt sz_b9) nin0)).ext E19).keep K59 (ninS (oL PE2.lt sz_b19) (ninS (oL PE2.lt sz_b9) nin0))).ext E67).other W73 (Or.inr (sn_94_92 hw))).ext E75)
  obtain ⟨T81, h81, X81, e81, W81, st81⟩ := putF X75 hx hZ hown (host := "") (Or.inl (ow93 hw)) Via.refl e75 G80 ((((((((((PE2.ext E4).keep Kq7).keep Kq8).ext E9).keep K18).ext E19).keep K59).ext E67).wr W73).ext E75) (Or.inr ⟨(ow94 hw), rfl, hnm⟩) (ow1 hw) (ty := (.array (.array .int))) (by decide) rfl rfl (g := (mkF m 109 #[oR b2, oI 1, oI 2, oR b4, oR b9, oU, oU, oU, oU, oU, oU, oU, oU] [vR b75, vR b2])) rfl rfl (hb hby d1_109)
  have Fw81 := Fld.same W81 G80
  have K81 : Keep h0 h81 [b2] := K75.wr W81 (Or.inl (List.mem_of_getElem? (i := 0) rfl))
  have N81 := Fr.snoc X81 N74 n_b2
  refine own_go (T' := T81) (f' := (mkF m 115 #[oR b2, oI 1, oI 2, oR b4, oR b9, oU, oU, oU, oU, oU, oU, oU, oU] [vR b9, vR b2])) (fun _ k => st81 _ (own_e X81 tt 112 2 k rfl)) ?_
  have Zs83 : n0 ≤ h81.size := (oT (oT (oT (oT (oT Zs62 K59.1) E67.1) (Keep.of_wr W73).1) E75.1) (Keep.of_wr W81).1)
  obtain ⟨cq82, kq82, q82a, q82b, q82c⟩ := isOf hZ e81 (((((((A9.keep K18).ext E19).keep K59).ext E67).wr W73).ext E75).wr W81)
  obtain ⟨_, T82, Lc82, X82, hQ82, st82⟩ := own_out (X81.interfaceBack hx (xi := mn11) (y := mn10) hown (mvT hZ (ow81 hw)) (mvT hZ (ow82 hw)) (mvT hZ (ow83 hw)) (mvT hZ (ow84 hw)) (mvT hZ (ow85 hw)) (mvT hZ (ow86 hw)) (mvT hZ (ow87 hw)) (mvT hZ (ow53 hw)) (by decide) (backOf (W := 1) (rm12a15 l Z a0 hw [] b9 h81 n0 Zs83 ((((g59_3.ext E67).other W73 (Or.inl (oM PE2.lt sz_b9))).ext E75).other W81 (Or.inl (oM PE2.lt sz_b9)))) hZ (ow88 hw) (ow12 hw) (by decide) (by decide)) q82a q82b q82c (g := (mkF m 115 #[oR b2, oI 1, oI 2, oR b4, oR b9, oU, oU, oU, oU, oU, oU, oU, oU] [vR b9, vR b2])) rfl (by rw [hml]; rfl) (Steps.refl _) (argsL := []) (rest := [(.ref b2)]) (lenOf pd0 rfl) rfl (by show 2 * 0 + _ ≤ _; exact Nat.le_of_eq rfl) (hb hby d1_115) (fun _ _ => ⟨rfl, e81, (by decide : 12 + 0 ≤ _), (by decide : 31 + 0 ≤ _)⟩))
  obtain ⟨rfl, N82q, hh82⟩ := hQ82
  have N82 := Fr.app N81 N82q
  obtain ⟨_, X82, N82⟩ := own_hide X82 N82
  refine own_go (T' := T82) (f' := (mkF m 120 #[oR b2, oI 1, oI 2, oR b4, oR b9, oU, oU, oU, oU, oU, oU, oU, oU] [vI 2, vR b2])) (fun _ k => st82.trans k) ?_
  obtain ⟨T84, h84, k84, X84, e84, E84, A84, EA84, st84⟩ := newPE (aty := .int) X82 hx hZ (ow9 hw) hh82 (g := (mkF m 120 #[oR b2, oI 1, oI 2, oR b4, oR b9, oU, oU, oU, oU, oU, oU, oU, oU] [vI 2, vR b2])) rfl (hb hby d1_120) rfl (by decide) (cap := 2) (by decide) (by decide) (by decide) (by decide) (ad := "[I") (by decide +kernel)
  obtain ⟨b84, g_b84⟩ : ∃ z, z = h81.size := ⟨_, rfl⟩
  have sg_b84 : h81.size ≤ b84 := Nat.le_of_eq g_b84.symm
  rw [← g_b84] at A84 EA84 st84
  have n_b84 := oT Zs83 sg_b84
  have sz_b84 := oT K81.1 sg_b84
  have u85 := (oW V_b75.lt (Keep.of_wr W81).1)
  have u86 := (oW V_x75a.lt (Keep.of_wr W81).1)
  have u87 := (oW V_x75b.lt (Keep.of_wr W81).1)
  have m88 : h73.size ≤ h81.size := (oT (oT (Nat.le_refl _) E75.1) (Keep.of_wr W81).1)
  have K84 : Keep h0 h84 [b2] := K81.ext E84
  have V_b84 : Arv Z h84 b84 k84 .int (2 : Int32) [(.int (0 : Int32)), (.int (0 : Int32))] (.int (0 : Int32)) := (Arv.new A84 (by decide)).pad (pad_rep [] (.int (0 : Int32)) 2)
  refine own_go (T' := T84) (f' := (mkF m 122 #[oR b2, oI 1, oI 2, oR b4, oR b9, oU, oU, oU, oU, oU, oU, oU, oU] [vR b84, vR b2])) (fun _ k => st84 _ k) ?_
  have G89 := ((((((((((((PE2.ext E4).keep Kq7).keep Kq8).ext E9).keep K18).ext E19).keep K59).ext E67).wr W73).ext E75).wr W81).ext E84)
  have G90 := ((((((((((((PF5.ext E4).keep Kq7 (ninS (oL PE2.lt sz_b4) nin0)).keep Kq8 (ninS (oL PE2.lt sz_b4) nin0)).ext E9).keep K18 (ninS (oL PE2.lt sz_b9) nin0)).ext E19).keep K59 (ninS (oL PE2.lt sz_b19) (ninS (oL PE2.lt sz_b9) nin0))).ext E67).other W73 (Or.inr (sn_96_92 hw))).ext E75).other W81 (Or.inr (sn_96_94 hw))).ext E84)
  obtain ⟨T91, h91, X91, e91, W91, st91⟩ := putF X84 hx hZ hown (host := "") (Or.inl (ow95 hw)) Via.refl e84 G90 G89 (Or.inr ⟨(ow96 hw), rfl, hnm⟩) (ow1 hw) (ty := (.array .int)) (by decide) rfl rfl (g := (mkF m 122 #[oR b2, oI 1, oI 2, oR b4, oR b9, oU, oU, oU, oU, oU, oU, oU, oU] [vR b84, vR b2])) rfl rfl (hb hby d1_122)
  have Fw91 := Fld.same W91 G90
  have K91 : Keep h0 h91 [b2] := K84.wr W91 (Or.inl (List.mem_of_getElem? (i := 0) rfl))
  have N91 := Fr.snoc X91 N82 n_b2
  refine own_go (T' := T91) (f' := (mkF m 132 #[oR b2, oI 1, oI 2, oR b4, oR b9, oI 0, oU, oU, oU, oU, oU, oU, oU] [vR b9, vI 0])) (fun _ k => st91 _ (own_e X91 tt 125 4 k rfl)) ?_
  have G93 := ((((((g59_3.ext E67).other W73 (Or.inl (oM PE2.lt sz_b9))).ext E75).other W81 (Or.inl (oM PE2.lt sz_b9))).ext E84).other W91 (Or.inl (oM PE2.lt sz_b9)))
  obtain ⟨cq92, kq92, q92a, q92b, q92c⟩ := isOf hZ e91 (((((((((A9.keep K18).ext E19).keep K59).ext E67).wr W73).ext E75).wr W81).ext E84).wr W91)
  obtain ⟨_, T92, Lc92, X92, hQ92, st92⟩ := own_out (X91.interfaceBack hx (xi := mn11) (y := mn10) hown (mvT hZ (ow81 hw)) (mvT hZ (ow82 hw)) (mvT hZ (ow83 hw)) (mvT hZ (ow84 hw)) (mvT hZ (ow85 hw)) (mvT hZ (ow86 hw)) (mvT hZ (ow87 hw)) (mvT hZ (ow53 hw)) (by decide) (backOf (W := 1) (rm12a15 l Z a0 hw [] b9 h91 n0 (oT (oT Zs83 E84.1) (Keep.of_wr W91).1) G93) hZ (ow88 hw) (ow12 hw) (by decide) (by decide)) q92a q92b q92c (g := (mkF m 132 #[oR b2, oI 1, oI 2, oR b4, oR b9, oI 0, oU, oU, oU, oU, oU, oU, oU] [vR b9, vI 0])) rfl (by rw [hml]; rfl) (Steps.refl _) (argsL := []) (rest := [(.int (0 : Int32))]) (lenOf pd0 rfl) rfl (by show 2 * 0 + _ ≤ _; exact Nat.le_of_eq rfl) (hb hby d1_132) (fun _ _ => ⟨rfl, e91, (by decide : 13 + 0 ≤ _), (by decide : 33 + 0 ≤ _)⟩))
  obtain ⟨rfl, N92q, hh92⟩ := hQ92
  have N92 := Fr.app N91 N92q
  obtain ⟨_, X92, N92⟩ := own_hide X92 N92
  refine own_go (T' := T92) (f' := (mkF m 141 #[oR b2, oI 1, oI 2, oR b4, oR b9, oI 0, oU, oU, oU, oU, oU, oU, oU] [vI 2])) (fun _ k => st92.trans (own_e X92 tt 137 2 k rfl)) ?_
  obtain ⟨T94, h94, k94, X94, e94, E94, A94, EA94, st94⟩ := newPE (aty := .boolean) X92 hx hZ (ow97 hw) hh92 (g := (mkF m 141 #[oR b2, oI 1, oI 2, oR b4, oR b9, oI 0, oU, oU, oU, oU, oU, oU, oU] [vI 2])) rfl (hb hby d1_141) rfl (by decide) (cap := 2) (by decide) (by decide) (by decide) (by decide) (ad := "[Z") (by decide +kernel)
  obtain ⟨b94, g_b94⟩ : ∃ z, z = h91.size := ⟨_, rfl⟩
  have sg_b94 : h91.size ≤ b94 := Nat.le_of_eq g_b94.symm
  rw [← g_b94] at A94 EA94 st94
  have n_b94 := oT (oT (oT Zs83 E84.1) (Keep.of_wr W91).1) sg_b94
  have sz_b94 := oT K91.1 sg_b94
  have u95 := (oW V_b84.lt (Keep.of_wr W91).1)
  have m96 : h81.size ≤ h91.size := (oT (oT (Nat.le_refl _) E84.1) (Keep.of_wr W91).1)
  have K94 : Keep h0 h94 [b2] := K91.ext E94
  have V_b94 : Arv Z h94 b94 k94 .boolean (2 : Int32) [(.int (0 : Int32)), (.int (0 : Int32))] (.int (0 : Int32)) := (Arv.new A94 (by decide)).pad (pad_rep [] (.int (0 : Int32)) 2)
  refine own_go (T' := T94) (f' := (mkF m 149 #[oR b2, oI 1, oI 2, oR b4, oR b9, oI 0, oR b94, oU, oU, oU, oU, oU, oU] [vI 0, vR b9])) (fun _ k => st94 _ (own_e X94 tt 143 3 k rfl)) ?_
  have G12 := (((((((g59_2.ext E67).other W73 (Or.inl (oM PE2.lt sz_b9))).ext E75).other W81 (Or.inl (oM PE2.lt sz_b9))).ext E84).other W91 (Or.inl (oM PE2.lt sz_b9))).ext E94)
  have G13 := (((((((g59_4.ext E67).other W73 (oM PE2.lt sz_b59a)).ext E75).other W81 (oM PE2.lt sz_b59a)).ext E84).other W91 (oM PE2.lt sz_b59a)).ext E94)
  obtain ⟨cq14, kq14, q14a, q14b, q14c⟩ := isOf hZ e94 ((((((((((A9.keep K18).ext E19).keep K59).ext E67).wr W73).ext E75).wr W81).ext E84).wr W91).ext E94)
  obtain ⟨_, T14, Lc14, X14, hQ14, st14⟩ := own_out (X94.interfaceBack hx (xi := mn16) (y := mn15) hown (mvT hZ (ow98 hw)) (mvT hZ (ow99 hw)) (mvT hZ (ow100 hw)) (mvT hZ (ow101 hw)) (mvT hZ (ow102 hw)) (mvT hZ (ow103 hw)) (mvT hZ (ow104 hw)) (mvT hZ (ow53 hw)) (by decide) (backOf (W := 0) (rm13a16 l Z a0 hw [] b9 b59a k59b b59c b59d h94 n0 (oT (oT (oT Zs83 E84.1) (Keep.of_wr W91).1) E94.1) ((((((((((A9.keep K18).ext E19).keep K59).ext E67).wr W73).ext E75).wr W81).ext E84).wr W91).ext E94) G12 (G93.ext E94) G13) hZ (ow105 hw) (ow12 hw) (by decide) (by decide)) q14a q14b q14c (g := (mkF m 149 #[oR b2, oI 1, oI 2, oR b4, oR b9, oI 0, oR b94, oU, oU, oU, oU, oU, oU] [vI 0, vR b9])) rfl (by rw [hml]; rfl) (Steps.refl _) (argsL := [(.int (0 : Int32))]) (rest := []) (lenOf pd5 rfl) rfl (by show 2 * 0 + _ ≤ _; exact Nat.le_of_eq rfl) (hb hby d1_149) (fun _ _ => ⟨rfl, e94, (by decide : 14 + 0 ≤ _), (by decide : 35 + 0 ≤ _)⟩))
  obtain ⟨rfl, N14q, hh14⟩ := hQ14
  have N14 := Fr.app N92 N14q
  obtain ⟨_, X14, N14⟩ := own_hide X14 N14
  refine own_go (T' := T14) (f' := (mkF m 154 #[oR b2, oI 1, oI 2, oR b4, oR b9, oI 0, oR b94, oU, oU, oU, oU, oU, oU] [vR b59c])) (fun _ k => st14.trans k) ?_
  obtain ⟨T15, X15, e15, st15⟩ := castY X14 hx hZ hown (ow44 hw) hh14 (Ins.self (((((((g59_7.ext E67).wr W73).ext E75).wr W81).ext E84).wr W91).ext E94)) (g := (mkF m 154 #[oR b2, oI 1, oI 2, oR b4, oR b9, oI 0, oR b94, oU, oU, oU, oU, oU, oU] [vR b59c])) rfl rfl (hb hby d1_154)
  refine own_go (T' := T15) (f' := (mkF m 157 #[oR b2, oI 1, oI 2, oR b4, oR b9, oI 0, oR b94, oU, oU, oU, oU, oU, oU] [vR b59c])) (fun _ k => st15 _ k) ?_
  have G16 := (((((((g59_6.ext E67).other W73 (oM PE2.lt sz_b59c)).ext E75).other W81 (oM PE2.lt sz_b59c)).ext E84).other W91 (oM PE2.lt sz_b59c)).ext E94)
  have l17 : b4 < b9 := oW u10 sg_b9
  have l22 : b9 < b59c := oW u20 (oT m64 sg_b59c)
  have c23 := oT m79 m88
  have c24 := oT c23 m96
  have l25 : b59c < b94 := oW u69 (oT c24 sg_b94)
  refine own_mrun2 (a0 := a0) (as := [b2, b4, b9, b59c, b94]) (kc := [0, 0, 0, k19, k94]) (fl := []) (cl := []) (wl := [4]) (ks := [3, 4]) (na := 5) (ls := [oR 0, oI 1, oI 2, oR 1, oR 2, oI 0, oR 4, oU, oU, oU, oU, oU, oU]) (st := [vR 3]) (me := [(3, .int, 1, [vI 0]), (4, .boolean, 2, [vI 0, vI 0])]) (pc' := 197) (ls' := [oR 0, oI 1, oI 2, oR 1, oR 2, oI 0, oR 4, oI 0, oI 1, oI 1, oI 0, oU, oU]) (st' := [vI 2]) (ups := [(4, [vI 1, vI 0])]) tt hZ hown X15 N14 e15 trivial trivial trivial (oA G16 (oA V_b94 trivial)) (Or.inr (oA l6 (oA l17 (oA l22 (oA l25 trivial))))) (oA n_b94 trivial) rfl rfl (by decide +kernel) 25 (by decide +kernel) fun T26 h26 _ X26 N26 e26 K26 q26 M26 => ?_
  have Kq26 : Keep h94 h26 [b94] := K26
  have KK26 : Keep h0 h26 [b2] := Keep.trans K94 Kq26 (allS (Or.inr sz_b94) all0)
  obtain ⟨-, v26_1, -⟩ := M26
  have V26_1 : Arv Z h26 b94 k94 .boolean (2 : Int32) [(.int (1 : Int32)), (.int (0 : Int32))] (.int (0 : Int32)) := v26_1
  show own_Ends p e below s _ _ _ T26 (mkF m 197 #[oR b2, oI 1, oI 2, oR b4, oR b9, oI 0, oR b94, oI 0, oI 1, oI 1, oI 0, oU, oU] [vI 2])
  obtain ⟨T27, h27, k27, X27, e27, E27, A27, EA27, st27⟩ := newPE (aty := .boolean) X26 hx hZ (ow97 hw) e26 (g := (mkF m 197 #[oR b2, oI 1, oI 2, oR b4, oR b9, oI 0, oR b94, oI 0, oI 1, oI 1, oI 0, oU, oU] [vI 2])) rfl (hb hby d1_197) rfl (by decide) (cap := 2) (by decide) (by decide) (by decide) (by decide) (ad := "[Z") (by decide +kernel)
  obtain ⟨b27, g_b27⟩ : ∃ z, z = h26.size := ⟨_, rfl⟩
  have sg_b27 : h26.size ≤ b27 := Nat.le_of_eq g_b27.symm
  rw [← g_b27] at A27 EA27 st27
  have n_b27 := oT (oT (oT (oT (oT Zs83 E84.1) (Keep.of_wr W91).1) E94.1) Kq26.1) sg_b27
  have sz_b27 := oT KK26.1 sg_b27
  have u28 := (oW V_b94.lt Kq26.1)
  have m29 : h91.size ≤ h26.size := (oT (oT (Nat.le_refl _) E94.1) Kq26.1)
  have K27 : Keep h0 h27 [b2] := KK26.ext E27
  have V_b27 : Arv Z h27 b27 k27 .boolean (2 : Int32) [(.int (0 : Int32)), (.int (0 : Int32))] (.int (0 : Int32)) := (Arv.new A27 (by decide)).pad (pad_rep [] (.int (0 : Int32)) 2)
  refine own_go (T' := T27) (f' := (mkF m 199 #[oR b2, oI 1, oI 2, oR b4, oR b9, oI 0, oR b94, oI 0, oI 1, oI 1, oI 0, oU, oU] [vR b27])) (fun _ k => st27 _ k) ?_
  have c30 := oT m88 m96
  have q31 := oL u76 (oT c30 sg_b94)
  have G32 := ((((((((V_b67.other W73 (oM PE2.lt sz_b67)).ext E75).other W81 (oM PE2.lt sz_b67)).ext E84).other W91 (oM PE2.lt sz_b67)).ext E94).keep Kq26 (ninS q31 nin0)).ext E27)
  have q33 := oL u10 (oT m21 sg_b19)
  have c34 := oT m21 m64
  have c35 := oT c34 m71
  have c36 := oT c35 m79
  have c37 := oT c36 m88
  have c38 := oT c37 m96
  have q39 := oL u10 (oT c38 sg_b94)
  have G40 := (((((((((((((V8_0.ext E9).keep K18 (ninS (oL u10 sg_b9) nin0)).ext E19).keep K59 (ninS q33 (ninS (oL u10 sg_b9) nin0))).ext E67).other W73 (oM PE2.lt sz_b4)).ext E75).other W81 (oM PE2.lt sz_b4)).ext E84).other W91 (oM PE2.lt sz_b4)).ext E94).keep Kq26 (ninS q39 nin0)).ext E27)
  have q41 := oL u77 (oT c30 sg_b94)
  have G42 := ((((((((V_x67a.other W73 (oM PE2.lt sz_x67a)).ext E75).other W81 (oM PE2.lt sz_x67a)).ext E84).other W91 (oM PE2.lt sz_x67a)).ext E94).keep Kq26 (ninS q41 nin0)).ext E27)
  have q43 := oL u85 (oT m96 sg_b94)
  have G44 := ((((((V_b75.other W81 (oM PE2.lt sz_b75)).ext E84).other W91 (oM PE2.lt sz_b75)).ext E94).keep Kq26 (ninS q43 nin0)).ext E27)
  have q45 := oL u86 (oT m96 sg_b94)
  have G46 := ((((((V_x75a.other W81 (oM PE2.lt sz_x75a)).ext E84).other W91 (oM PE2.lt sz_x75a)).ext E94).keep Kq26 (ninS q45 nin0)).ext E27)
  have G47 := (((((((Fw73.ext E75).other W81 (Or.inr (sn_92_94 hw))).ext E84).other W91 (Or.inr (sn_92_96 hw))).ext E94).keep Kq26 (ninS (oL PE2.lt sz_b94) nin0)).ext E27)
  have c48 := oT m64 m71
  have l49 : b9 < b67 := oW u20 (oT c48 sg_b67)
  have l50 : b67 < x67a := by omega
  have l51 : x67a < x67b := by omega
  have l52 : x67b < b75 := oW u78 sg_b75
  have l53 : b75 < x75a := by omega
  have l54 : x75a < x75b := by omega
  have l55 : x75b < b84 := oW u87 sg_b84
  have l56 : b84 < b94 := oW u95 sg_b94
  have l57 : b94 < b27 := oW u28 sg_b27
  refine own_mrun2 (a0 := a0) (as := [b2, b4, b9, b67, x67a, x67b, b75, x75a, x75b, b84, b94, b27]) (kc := [0, k4, 0, k67, kc67, 0, k75, kc75, 0, k84, k94, k27]) (fl := [fE1_26 0 (vR 3), fE1_29 0 (vR 6), fE1_32 0 (vR 9)]) (cl := []) (wl := [11, 4, 7, 9]) (ks := [11, 10, 3, 1, 4, 6, 7, 9]) (na := 12) (ls := [oR 0, oI 1, oI 2, oR 1, oR 2, oI 0, oR 10, oI 0, oI 1, oI 1, oI 0, oU, oU]) (st := [vR 11]) (me := [(11, .boolean, 2, [vI 0, vI 0]), (10, .boolean, 2, [vI 1, vI 0]), (3, (.array .int), 2, [vR 4, vR 5]), (1, .int, 3, [vI 0, vI 32, vI 64]), (4, .int, 2, [vI 0, vI 0]), (6, (.array .int), 2, [vR 7, vR 8]), (7, .int, 2, [vI 0, vI 0]), (9, .int, 2, [vI 0, vI 0])]) (pc' := 132) (ls' := [oR 0, oI 1, oI 2, oR 1, oR 2, oI 1, oR 10, oI 2, oR 11, oI 2, oI 2, oI 0, oI 2]) (st' := [vR 2, vI 1]) (ups := [(11, [vI 1, vI 0]), (4, [vI 32, vI 0]), (7, [vI 32, vI 32]), (9, [vI 32, vI 0])]) tt hZ hown X27 N26 e27 (oA (ow91 hw) (oA (ow93 hw) (oA (ow95 hw) trivial))) trivial (oA G47 (oA (((((Fw81.ext E84).other W91 (Or.inr (sn_94_96 hw))).ext E94).keep Kq26 (ninS (oL PE2.lt sz_b94) nin0)).ext E27) (oA (((Fw91.ext E94).keep Kq26 (ninS (oL PE2.lt sz_b94) nin0)).ext E27) trivial))) (oA V_b27 (oA (V26_1.ext E27) (oA G32 (oA G40 (oA G42 (oA G44 (oA G46 (oA ((((V_b84.other W91 (oM PE2.lt sz_b84)).ext E94).keep Kq26 (ninS (oL u95 sg_b94) nin0)).ext E27) trivial)))))))) (Or.inr (oA l6 (oA l17 (oA l49 (oA l50 (oA l51 (oA l52 (oA l53 (oA l54 (oA l55 (oA l56 (oA l57 trivial)))))))))))) (oA n_b27 (oA n_x67a (oA n_x75a (oA n_b84 trivial)))) rfl rfl (by decide +kernel) 173 (by decide +kernel) fun T58 h58 _ X58 N58 e58 K58 q58 M58 => ?_
  have Kq58 : Keep h27 h58 [b27, x67a, x75a, b84] := K58
  have KK58 : Keep h0 h58 [b2] := Keep.trans K27 Kq58 (allS (Or.inr sz_b27) (allS (Or.inr sz_x67a) (allS (Or.inr sz_x75a) (allS (Or.inr sz_b84) all0))))
  obtain ⟨v58_0, -, -, -, v58_4, -, v58_6, v58_7, -⟩ := M58
  have V58_0 : Arv Z h58 b27 k27 .boolean (2 : Int32) [(.int (1 : Int32)), (.int (0 : Int32))] (.int (0 : Int32)) := v58_0
  have V58_4 : Arv Z h58 x67a kc67 .int (2 : Int32) [(.int (32 : Int32)), (.int (0 : Int32))] (.int (0 : Int32)) := v58_4
  have V58_6 : Arv Z h58 x75a kc75 .int (2 : Int32) [(.int (32 : Int32)), (.int (32 : Int32))] (.int (0 : Int32)) := v58_6
  have V58_7 : Arv Z h58 b84 k84 .int (2 : Int32) [(.int (32 : Int32)), (.int (0 : Int32))] (.int (0 : Int32)) := v58_7
  show own_Ends p e below s _ _ _ T58 (mkF m 132 #[oR b2, oI 1, oI 2, oR b4, oR b9, oI 1, oR b94, oI 2, oR b27, oI 2, oI 2, oI 0, oI 2] [vR b9, vI 1])
  have c65 := oT c48 m79
  have c97 := oT c65 m88
  have c98 := oT c97 m96
  have q99 := oL u20 (oT c98 sg_b94)
  have q100 := oL u20 (oT c97 sg_b84)
  have q101 := oL u20 (oT c65 sg_x75a)
  have q102 := oL u20 (oT c48 sg_x67a)
  have c103 := oT c98 m29
  have q104 := oL u20 (oT c103 sg_b27)
  have Zs105 : n0 ≤ h58.size := (oT (oT (oT (oT (oT (oT Zs83 E84.1) (Keep.of_wr W91).1) E94.1) Kq26.1) E27.1) Kq58.1)
  have G106 := (((((((((((((A9.keep K18).ext E19).keep K59).ext E67).wr W73).ext E75).wr W81).ext E84).wr W91).ext E94).keep Kq26).ext E27).keep Kq58)
  obtain ⟨cq107, kq107, q107a, q107b, q107c⟩ := isOf hZ e58 G106
  obtain ⟨_, T107, Lc107, X107, hQ107, st107⟩ := own_out (X58.interfaceBack hx (xi := mn11) (y := mn10) hown (mvT hZ (ow81 hw)) (mvT hZ (ow82 hw)) (mvT hZ (ow83 hw)) (mvT hZ (ow84 hw)) (mvT hZ (ow85 hw)) (mvT hZ (ow86 hw)) (mvT hZ (ow87 hw)) (mvT hZ (ow53 hw)) (by decide) (backOf (W := 1) (rm12a15 l Z a0 hw [] b9 h58 n0 Zs105 ((((G93.ext E94).keep Kq26 (ninS q99 nin0)).ext E27).keep Kq58 (ninS q104 (ninS q102 (ninS q101 (ninS q100 nin0)))))) hZ (ow88 hw) (ow12 hw) (by decide) (by decide)) q107a q107b q107c (g := (mkF m 132 #[oR b2, oI 1, oI 2, oR b4, oR b9, oI 1, oR b94, oI 2, oR b27, oI 2, oI 2, oI 0, oI 2] [vR b9, vI 1])) rfl (by rw [hml]; rfl) (Steps.refl _) (argsL := []) (rest := [(.int (1 : Int32))]) (lenOf pd0 rfl) rfl (by show 2 * 0 + _ ≤ _; exact Nat.le_of_eq rfl) (hb hby d1_132) (fun _ _ => ⟨rfl, e58, (by decide : 15 + 0 ≤ _), (by decide : 37 + 0 ≤ _)⟩))
  obtain ⟨rfl, N107q, hh107⟩ := hQ107
  have N107 := Fr.app N58 N107q
  obtain ⟨_, X107, N107⟩ := own_hide X107 N107
  refine own_go (T' := T107) (f' := (mkF m 141 #[oR b2, oI 1, oI 2, oR b4, oR b9, oI 1, oR b94, oI 2, oR b27, oI 2, oI 2, oI 0, oI 2] [vI 2])) (fun _ k => st107.trans (own_e X107 tt 137 2 k rfl)) ?_
  obtain ⟨T108, h108, k108, X108, e108, E108, A108, EA108, st108⟩ := newPE (aty := .boolean) X107 hx hZ (ow97 hw) hh107 (g := (mkF m 141 #[oR b2, oI 1, oI 2, oR b4, oR b9, oI 1, oR b94, oI 2, oR b27, oI 2, oI 2, oI 0, oI 2] [vI 2])) rfl (hb hby d1_141) rfl (by decide) (cap := 2) (by decide) (by decide) (by decide) (by decide) (ad := "[Z") (by decide +kernel)
  obtain ⟨b108, g_b108⟩ : ∃ z, z = h58.size := ⟨_, rfl⟩
  have sg_b108 : h58.size ≤ b108 := Nat.le_of_eq g_b108.symm
  rw [← g_b108] at A108 EA108 st108
  have n_b108 := oT Zs105 sg_b108
  have sz_b108 := oT KK58.1 sg_b108
  have u109 := (oW V_b27.lt Kq58.1)
  have m110 : h26.size ≤ h58.size := (oT (oT (Nat.le_refl _) E27.1) Kq58.1)
  have K108 : Keep h0 h108 [b2] := KK58.ext E108
  have V_b108 : Arv Z h108 b108 k108 .boolean (2 : Int32) [(.int (0 : Int32)), (.int (0 : Int32))] (.int (0 : Int32)) := (Arv.new A108 (by decide)).pad (pad_rep [] (.int (0 : Int32)) 2)
  refine own_go (T' := T108) (f' := (mkF m 149 #[oR b2, oI 1, oI 2, oR b4, oR b9, oI 1, oR b108, oI 2, oR b27, oI 2, oI 2, oI 0, oI 2] [vI 1, vR b9])) (fun _ k => st108 _ (own_e X108 tt 143 3 k rfl)) ?_
  have G111 := ((((G12.keep Kq26 (ninS q99 nin0)).ext E27).keep Kq58 (ninS q104 (ninS q102 (ninS q101 (ninS q100 nin0))))).ext E108)
  have G112 := (((((G93.ext E94).keep Kq26 (ninS q99 nin0)).ext E27).keep Kq58 (ninS q104 (ninS q102 (ninS q101 (ninS q100 nin0))))).ext E108)
  have q113 := oL u68 (oT c24 sg_b94)
  have q114 := oL u68 (oT c23 sg_b84)
  have q115 := oL u68 (oT m79 sg_x75a)
  have c116 := oT c24 m29
  have q117 := oL u68 (oT c116 sg_b27)
  have G118 := ((((G13.keep Kq26 (ninS q113 nin0)).ext E27).keep Kq58 (ninS q117 (ninS (oL u68 sg_x67a) (ninS q115 (ninS q114 nin0))))).ext E108)
  obtain ⟨cq119, kq119, q119a, q119b, q119c⟩ := isOf hZ e108 (G106.ext E108)
  obtain ⟨_, T119, Lc119, X119, hQ119, st119⟩ := own_out (X108.interfaceBack hx (xi := mn16) (y := mn15) hown (mvT hZ (ow98 hw)) (mvT hZ (ow99 hw)) (mvT hZ (ow100 hw)) (mvT hZ (ow101 hw)) (mvT hZ (ow102 hw)) (mvT hZ (ow103 hw)) (mvT hZ (ow104 hw)) (mvT hZ (ow53 hw)) (by decide) (backOf (W := 0) (rm13a20 l Z a0 hw [] b9 b59a k59b b59c b59d h108 n0 (oT Zs105 E108.1) (G106.ext E108) G111 G112 G118) hZ (ow105 hw) (ow12 hw) (by decide) (by decide)) q119a q119b q119c (g := (mkF m 149 #[oR b2, oI 1, oI 2, oR b4, oR b9, oI 1, oR b108, oI 2, oR b27, oI 2, oI 2, oI 0, oI 2] [vI 1, vR b9])) rfl (by rw [hml]; rfl) (Steps.refl _) (argsL := [(.int (1 : Int32))]) (rest := []) (lenOf pd5 rfl) rfl (by show 2 * 0 + _ ≤ _; exact Nat.le_of_eq rfl) (hb hby d1_149) (fun _ _ => ⟨rfl, e108, (by decide : 16 + 0 ≤ _), (by decide : 39 + 0 ≤ _)⟩))
  obtain ⟨rfl, N119q, hh119⟩ := hQ119
  have N119 := Fr.app N107 N119q
  obtain ⟨_, X119, N119⟩ := own_hide X119 N119
  refine own_go (T' := T119) (f' := (mkF m 154 #[oR b2, oI 1, oI 2, oR b4, oR b9, oI 1, oR b108, oI 2, oR b27, oI 2, oI 2, oI 0, oI 2] [vR b59d])) (fun _ k => st119.trans k) ?_
  obtain ⟨T120, X120, e120, st120⟩ := castY X119 hx hZ hown (ow44 hw) hh119 (Ins.self (((((((((((g59_9.ext E67).wr W73).ext E75).wr W81).ext E84).wr W91).ext E94).keep Kq26).ext E27).keep Kq58).ext E108)) (g := (mkF m 154 #[oR b2, oI 1, oI 2, oR b4, oR b9, oI 1, oR b108, oI 2, oR b27, oI 2, oI 2, oI 0, oI 2] [vR b59d])) rfl rfl (hb hby d1_154)
  refine own_go (T' := T120) (f' := (mkF m 157 #[oR b2, oI 1, oI 2, oR b4, oR b9, oI 1, oR b108, oI 2, oR b27, oI 2, oI 2, oI 0, oI 2] [vR b59d])) (fun _ k => st120 _ k) ?_
  have q121 := oL u70 (oT c24 sg_b94)
  have q122 := oL u70 (oT c23 sg_b84)
  have q123 := oL u70 (oT m79 sg_x75a)
  have q124 := oL u70 (oT c116 sg_b27)
  have G125 := (((((((((((g59_8.ext E67).other W73 (oM PE2.lt sz_b59d)).ext E75).other W81 (oM PE2.lt sz_b59d)).ext E84).other W91 (oM PE2.lt sz_b59d)).ext E94).keep Kq26 (ninS q121 nin0)).ext E27).keep Kq58 (ninS q124 (ninS (oL u70 sg_x67a) (ninS q123 (ninS q122 nin0))))).ext E108)
  have l126 : b9 < b59d := oW u20 (oT m64 sg_b59d)
  have l127 : b59d < b27 := oW u70 (oT c116 sg_b27)
  have l128 : b27 < b108 := oW u109 sg_b108
  refine own_mrun2 (a0 := a0) (as := [b2, b4, b9, b59d, b27, b108]) (kc := [0, 0, 0, k19, 0, k108]) (fl := []) (cl := []) (wl := [5]) (ks := [3, 5]) (na := 6) (ls := [oR 0, oI 1, oI 2, oR 1, oR 2, oI 1, oR 5, oI 2, oR 4, oI 2, oI 2, oI 0, oI 2]) (st := [vR 3]) (me := [(3, .int, 1, [vI 1]), (5, .boolean, 2, [vI 0, vI 0])]) (pc' := 197) (ls' := [oR 0, oI 1, oI 2, oR 1, oR 2, oI 1, oR 5, oI 0, oI 1, oI 1, oI 1, oI 0, oI 2]) (st' := [vI 2]) (ups := [(5, [vI 0, vI 1])]) tt hZ hown X120 N119 e120 trivial trivial trivial (oA G125 (oA V_b108 trivial)) (Or.inr (oA l6 (oA l17 (oA l126 (oA l127 (oA l128 trivial)))))) (oA n_b108 trivial) rfl rfl (by decide +kernel) 25 (by decide +kernel) fun T129 h129 _ X129 N129 e129 K129 q129 M129 => ?_
  have Kq129 : Keep h108 h129 [b108] := K129
  have KK129 : Keep h0 h129 [b2] := Keep.trans K108 Kq129 (allS (Or.inr sz_b108) all0)
  obtain ⟨-, v129_1, -⟩ := M129
  have V129_1 : Arv Z h129 b108 k108 .boolean (2 : Int32) [(.int (0 : Int32)), (.int (1 : Int32))] (.int (0 : Int32)) := v129_1
  show own_Ends p e below s _ _ _ T129 (mkF m 197 #[oR b2, oI 1, oI 2, oR b4, oR b9, oI 1, oR b108, oI 0, oI 1, oI 1, oI 1, oI 0, oI 2] [vI 2])
  obtain ⟨T130, h130, k130, X130, e130, E130, A130, EA130, st130⟩ := newPE (aty := .boolean) X129 hx hZ (ow97 hw) e129 (g := (mkF m 197 #[oR b2, oI 1, oI 2, oR b4, oR b9, oI 1, oR b108, oI 0, oI 1, oI 1, oI 1, oI 0, oI 2] [vI 2])) rfl (hb hby d1_197) rfl (by decide) (cap := 2) (by decide) (by decide) (by decide) (by decide) (ad := "[Z") (by decide +kernel)
  obtain ⟨b130, g_b130⟩ : ∃ z, z = h129.size := ⟨_, rfl⟩
  have sg_b130 : h129.size ≤ b130 := Nat.le_of_eq g_b130.symm
  rw [← g_b130] at A130 EA130 st130
  have n_b130 := oT (oT (oT Zs105 E108.1) Kq129.1) sg_b130
  have sz_b130 := oT KK129.1 sg_b130
  have u131 := (oW V_b108.lt Kq129.1)
  have m132 : h58.size ≤ h129.size := (oT (oT (Nat.le_refl _) E108.1) Kq129.1)
  have K130 : Keep h0 h130 [b2] := KK129.ext E130
  have V_b130 : Arv Z h130 b130 k130 .boolean (2 : Int32) [(.int (0 : Int32)), (.int (0 : Int32))] (.int (0 : Int32)) := (Arv.new A130 (by decide)).pad (pad_rep [] (.int (0 : Int32)) 2)
  refine own_go (T' := T130) (f' := (mkF m 199 #[oR b2, oI 1, oI 2, oR b4, oR b9, oI 1, oR b108, oI 0, oI 1, oI 1, oI 1, oI 0, oI 2] [vR b130])) (fun _ k => st130 _ k) ?_
  have q133 := oL u76 (oT m88 sg_b84)
  have c134 := oT c30 m29
  have q135 := oL u76 (oT c134 sg_b27)
  have c136 := oT c134 m110
  have q137 := oL u76 (oT c136 sg_b108)
  have G138 := ((((G32.keep Kq58 (ninS q135 (ninS (Ne.symm nn_x67a_b67) (ninS (oL u76 sg_x75a) (ninS q133 nin0))))).ext E108).keep Kq129 (ninS q137 nin0)).ext E130)
  have q139 := oL u10 (oT c37 sg_b84)
  have q140 := oL u10 (oT c36 sg_x75a)
  have q141 := oL u10 (oT c35 sg_x67a)
  have c142 := oT c38 m29
  have q143 := oL u10 (oT c142 sg_b27)
  have c144 := oT c142 m110
  have q145 := oL u10 (oT c144 sg_b108)
  have G146 := ((((G40.keep Kq58 (ninS q143 (ninS q141 (ninS q140 (ninS q139 nin0))))).ext E108).keep Kq129 (ninS q145 nin0)).ext E130)
  have q147 := oL u78 (oT c30 sg_b94)
  have q148 := oL u78 (oT m88 sg_b84)
  have q149 := oL u78 (oT c134 sg_b27)
  have q150 := oL u78 (oT c136 sg_b108)
  have G151 := ((((((((((((V_x67b.other W73 (oM PE2.lt sz_x67b)).ext E75).other W81 (oM PE2.lt sz_x67b)).ext E84).other W91 (oM PE2.lt sz_x67b)).ext E94).keep Kq26 (ninS q147 nin0)).ext E27).keep Kq58 (ninS q149 (ninS nn_x67b_x67a (ninS (oL u78 sg_x75a) (ninS q148 nin0))))).ext E108).keep Kq129 (ninS q150 nin0)).ext E130)
  have c152 := oT m96 m29
  have q153 := oL u85 (oT c152 sg_b27)
  have c154 := oT c152 m110
  have q155 := oL u85 (oT c154 sg_b108)
  have G156 := ((((G44.keep Kq58 (ninS q153 (ninS (oM u77 sg_b75) (ninS (Ne.symm nn_x75a_b75) (ninS (oL u85 sg_b84) nin0))))).ext E108).keep Kq129 (ninS q155 nin0)).ext E130)
  have q157 := oL u87 (oT m96 sg_b94)
  have q158 := oL u87 (oT c152 sg_b27)
  have q159 := oL u87 (oT c154 sg_b108)
  have G160 := ((((((((((V_x75b.other W81 (oM PE2.lt sz_x75b)).ext E84).other W91 (oM PE2.lt sz_x75b)).ext E94).keep Kq26 (ninS q157 nin0)).ext E27).keep Kq58 (ninS q158 (ninS (oM u77 sg_x75b) (ninS nn_x75b_x75a (ninS (oL u87 sg_b84) nin0))))).ext E108).keep Kq129 (ninS q159 nin0)).ext E130)
  have c161 := oT m29 m110
  have q162 := oL u95 (oT c161 sg_b108)
  have G163 := ((((G47.keep Kq58 (ninS (oL PE2.lt sz_b27) (ninS (oL PE2.lt sz_x67a) (ninS (oL PE2.lt sz_x75a) (ninS (oL PE2.lt sz_b84) nin0))))).ext E108).keep Kq129 (ninS (oL PE2.lt sz_b108) nin0)).ext E130)
  have G164 := (((((((((Fw81.ext E84).other W91 (Or.inr (sn_94_96 hw))).ext E94).keep Kq26 (ninS (oL PE2.lt sz_b94) nin0)).ext E27).keep Kq58 (ninS (oL PE2.lt sz_b27) (ninS (oL PE2.lt sz_x67a) (ninS (oL PE2.lt sz_x75a) (ninS (oL PE2.lt sz_b84) nin0))))).ext E108).keep Kq129 (ninS (oL PE2.lt sz_b108) nin0)).ext E130)
  have G165 := (((((((Fw91.ext E94).keep Kq26 (ninS (oL PE2.lt sz_b94) nin0)).ext E27).keep Kq58 (ninS (oL PE2.lt sz_b27) (ninS (oL PE2.lt sz_x67a) (ninS (oL PE2.lt sz_x75a) (ninS (oL PE2.lt sz_b84) nin0))))).ext E108).keep Kq129 (ninS (oL PE2.lt sz_b108) nin0)).ext E130)
  have l166 : b84 < b108 := oW u95 (oT c161 sg_b108)
  have l167 : b108 < b130 := oW u131 sg_b130
  refine own_mrun2 (a0 := a0) (as := [b2, b4, b9, b67, x67a, x67b, b75, x75a, x75b, b84, b108, b130]) (kc := [0, k4, 0, k67, 0, kc67, k75, 0, kc75, k84, k108, k130]) (fl := [fE1_26 0 (vR 3), fE1_29 0 (vR 6), fE1_32 0 (vR 9)]) (cl := []) (wl := [11, 5, 8, 9]) (ks := [11, 10, 3, 1, 5, 6, 8, 9]) (na := 12) (ls := [oR 0, oI 1, oI 2, oR 1, oR 2, oI 1, oR 10, oI 0, oI 1, oI 1, oI 1, oI 0, oI 2]) (st := [vR 11]) (me := [(11, .boolean, 2, [vI 0, vI 0]), (10, .boolean, 2, [vI 0, vI 1]), (3, (.array .int), 2, [vR 4, vR 5]), (1, .int, 3, [vI 0, vI 32, vI 64]), (5, .int, 2, [vI 0, vI 0]), (6, (.array .int), 2, [vR 7, vR 8]), (8, .int, 2, [vI 0, vI 0]), (9, .int, 2, [vI 32, vI 0])]) (pc' := 132) (ls' := [oR 0, oI 1, oI 2, oR 1, oR 2, oI 2, oR 10, oI 2, oR 11, oI 2, oI 2, oI 0, oI 2]) (st' := [vR 2, vI 2]) (ups := [(11, [vI 1, vI 0]), (5, [vI 0, vI 32]), (8, [vI 32, vI 32]), (9, [vI 32, vI 32])]) tt hZ hown X130 N129 e130 (oA (ow91 hw) (oA (ow93 hw) (oA (ow95 hw) trivial))) trivial (oA G163 (oA G164 (oA G165 trivial))) (oA V_b130 (oA (V129_1.ext E130) (oA G138 (oA G146 (oA G151 (oA G156 (oA G160 (oA (((V58_7.ext E108).keep Kq129 (ninS q162 nin0)).ext E130) trivial)))))))) (Or.inr (oA l6 (oA l17 (oA l49 (oA l50 (oA l51 (oA l52 (oA l53 (oA l54 (oA l55 (oA l166 (oA l167 trivial)))))))))))) (oA n_b130 (oA n_x67b (oA n_x75b (oA n_b84 trivial)))) rfl rfl (by decide +kernel) 173 (by decide +kernel) fun T168 h168 _ X168 N168 e168 K168 q168 M168 => ?_
  have Kq168 : Keep h130 h168 [b130, x67b, x75b, b84] := K168
  have KK168 : Keep h0 h168 [b2] := Keep.trans K130 Kq168 (allS (Or.inr sz_b130) (allS (Or.inr sz_x67b) (allS (Or.inr sz_x75b) (allS (Or.inr sz_b84) all0))))
  obtain ⟨v168_0, -, -, -, v168_4, -, v168_6, v168_7, -⟩ := M168
  have V168_0 : Arv Z h168 b130 k130 .boolean (2 : Int32) [(.int (1 : Int32)), (.int (0 : Int32))] (.int (0 : Int32)) := v168_0
  have V168_4 : Arv Z h168 x67b kc67 .int (2 : Int32) [(.int (0 : Int32)), (.int (32 : Int32))] (.int (0 : Int32)) := v168_4
  have V168_6 : Arv Z h168 x75b kc75 .int (2 : Int32) [(.int (32 : Int32)), (.int (32 : Int32))] (.int (0 : Int32)) := v168_6
  have V168_7 : Arv Z h168 b84 k84 .int (2 : Int32) [(.int (32 : Int32)), (.int (32 : Int32))] (.int (0 : Int32)) := v168_7
  show own_Ends p e below s _ _ _ T168 (mkF m 132 #[oR b2, oI 1, oI 2, oR b4, oR b9, oI 2, oR b108, oI 2, oR b130, oI 2, oI 2, oI 0, oI 2] [vR b9, vI 2])
  have c169 := oT c103 m110
  have q170 := oL u20 (oT c169 sg_b108)
  have q171 := oL u20 (oT c65 sg_x75b)
  have q172 := oL u20 (oT c48 sg_x67b)
  have c173 := oT c169 m132
  have q174 := oL u20 (oT c173 sg_b130)
  obtain ⟨cq175, kq175, q175a, q175b, q175c⟩ := isOf hZ e168 ((((G106.ext E108).keep Kq129).ext E130).keep Kq168)
  obtain ⟨_, T175, Lc175, X175, hQ175, st175⟩ := own_out (X168.interfaceBack hx (xi := mn11) (y := mn10) hown (mvT hZ (ow81 hw)) (mvT hZ (ow82 hw)) (mvT hZ (ow83 hw)) (mvT hZ (ow84 hw)) (mvT hZ (ow85 hw)) (mvT hZ (ow86 hw)) (mvT hZ (ow87 hw)) (mvT hZ (ow53 hw)) (by decide) (backOf (W := 1) (rm12a15 l Z a0 hw [] b9 h168 n0 (oT (oT (oT (oT Zs105 E108.1) Kq129.1) E130.1) Kq168.1) (((G112.keep Kq129 (ninS q170 nin0)).ext E130).keep Kq168 (ninS q174 (ninS q172 (ninS q171 (ninS q100 nin0)))))) hZ (ow88 hw) (ow12 hw) (by decide) (by decide)) q175a q175b q175c (g := (mkF m 132 #[oR b2, oI 1, oI 2, oR b4, oR b9, oI 2, oR b108, oI 2, oR b130, oI 2, oI 2, oI 0, oI 2] [vR b9, vI 2])) rfl (by rw [hml]; rfl) (Steps.refl _) (argsL := []) (rest := [(.int (2 : Int32))]) (lenOf pd0 rfl) rfl (by show 2 * 0 + _ ≤ _; exact Nat.le_of_eq rfl) (hb hby d1_132) (fun _ _ => ⟨rfl, e168, (by decide : 17 + 0 ≤ _), (by decide : 41 + 0 ≤ _)⟩))
  obtain ⟨rfl, N175q, hh175⟩ := hQ175
  have N175 := Fr.app N168 N175q
  obtain ⟨_, X175, N175⟩ := own_hide X175 N175
  refine own_go (T' := T175) (f' := (mkF m 343 #[oR b2, oI 1, oI 2, oR b4, oR b9, oI 2, oR b108, oI 2, oR b130, oI 2, oI 2, oI 0, oI 2] [vR b9, vR b2])) (fun _ k => st175.trans (own_e X175 tt 137 3 k rfl)) ?_
  obtain ⟨cq176, kq176, q176a, q176b, q176c⟩ := isOf hZ hh175 ((((G106.ext E108).keep Kq129).ext E130).keep Kq168)
  obtain ⟨_, T176, Lc176, X176, hQ176, st176⟩ := own_out (X175.interfaceBack hx (xi := mn11) (y := mn10) hown (mvT hZ (ow81 hw)) (mvT hZ (ow82 hw)) (mvT hZ (ow83 hw)) (mvT hZ (ow84 hw)) (mvT hZ (ow85 hw)) (mvT hZ (ow86 hw)) (mvT hZ (ow87 hw)) (mvT hZ (ow53 hw)) (by decide) (backOf (W := 1) (rm12a15 l Z a0 hw [] b9 h168 n0 (oT (oT (oT (oT Zs105 E108.1) Kq129.1) E130.1) Kq168.1) (((G112.keep Kq129 (ninS q170 nin0)).ext E130).keep Kq168 (ninS q174 (ninS q172 (ninS q171 (ninS q100 nin0)))))) hZ (ow88 hw) (ow12 hw) (by decide) (by decide)) q176a q176b q176c (g := (mkF m 343 #[oR b2, oI 1, oI 2, oR b4, oR b9, oI 2, oR b108, oI 2, oR b130, oI 2, oI 2, oI 0, oI 2] [vR b9, vR b2])) rfl (by rw [hml]; rfl) (Steps.refl _) (argsL := []) (rest := [(.ref b2)]) (lenOf pd0 rfl) rfl (by show 2 * 0 + _ ≤ _; exact Nat.le_of_eq rfl) (hb hby d1_343) (fun _ _ => ⟨rfl, hh175, (by decide : 17 + 0 ≤ _), (by decide : 41 + 0 ≤ _)⟩))
  obtain ⟨rfl, N176q, hh176⟩ := hQ176
  have N176 := Fr.app N175 N176q
  obtain ⟨_, X176, N176⟩ := own_hide X176 N176
  refine own_go (T' := T176) (f' := (mkF m 348 #[oR b2, oI 1, oI 2, oR b4, oR b9, oI 2, oR b108, oI 2, oR b130, oI 2, oI 2, oI 0, oI 2] [vI 2, vR b2])) (fun _ k => st176.trans k) ?_
  obtain ⟨T177, h177, k177, X177, e177, E177, A177, EA177, O177, st177⟩ := newRA X176 hx hZ (C := "[J") (ty := .long) hown (by decide +kernel) (ow119 hw) (ow120 hw) hh176 (g := (mkF m 348 #[oR b2, oI 1, oI 2, oR b4, oR b9, oI 2, oR b108, oI 2, oR b130, oI 2, oI 2, oI 0, oI 2] [vI 2, vR b2])) rfl (hb hby d1_348) rfl (by decide) (cap := 2) (by decide) (by decide) (by decide) (by decide) (ad := "[[J") (by decide +kernel)
  obtain ⟨b177, g_b177⟩ : ∃ z, z = h168.size := ⟨_, rfl⟩
  have sg_b177 : h168.size ≤ b177 := Nat.le_of_eq g_b177.symm
  rw [← g_b177] at A177 EA177 st177
  have n_b177 := oT (oT (oT (oT (oT Zs105 E108.1) Kq129.1) E130.1) Kq168.1) sg_b177
  have sz_b177 := oT KK168.1 sg_b177
  have u178 := (oW V_b130.lt Kq168.1)
  have m179 : h129.size ≤ h168.size := (oT (oT (Nat.le_refl _) E130.1) Kq168.1)
  have K177 : Keep h0 h177 [b2] := KK168.ext E177
  have V_b177 : Arv Z h177 b177 k177 (.array .long) (2 : Int32) [.null, .null] .null := (Arv.new A177 (by decide)).pad (pad_rep [] .null 2)
  refine own_go (T' := T177) (f' := (mkF m 351 #[oR b2, oI 1, oI 2, oR b4, oR b9, oI 2, oR b108, oI 2, oR b130, oI 2, oI 2, oI 0, oI 2] [vR b177, vR b2])) (fun _ k => st177 _ k) ?_
  have G180 := ((((((((((((((((((((((PF6.ext E4).keep Kq7 (ninS (oL PE2.lt sz_b4) nin0)).keep Kq8 (ninS (oL PE2.lt sz_b4) nin0)).ext E9).keep K18 (ninS (oL PE2.lt sz_b9) nin0)).ext E19).keep K59 (ninS (oL PE2.lt sz_b19) (ninS (oL PE2.lt sz_b9) nin0))).ext E67).other W73 (Or.inr (sn_122_92 hw))).ext E75).other W81 (Or.inr (sn_122_94 hw))).ext E84).other W91 (Or.inr (sn_122_96 hw))).ext E94).keep Kq26 (ninS (oL PE2.lt sz_b94) nin0)).ext E27).keep Kq58 (ninS (oL PE2.lt sz_b27) (ninS (oL PE2.lt sz_x67a) (ninS (oL PE2.lt sz_x75a) (ninS (oL PE2.lt sz_b84) nin0))))).ext E108).keep Kq129 (ninS (oL PE2.lt sz_b108) nin0)).ext E130).keep Kq168 (ninS (oL PE2.lt sz_b130) (ninS (oL PE2.lt sz_x67b) (ninS (oL PE2.lt sz_x75b) (ninS (oL PE2.lt sz_b84) nin0))))).ext E177)
  obtain ⟨T181, h181, X181, e181, W181, st181⟩ := putF X177 hx hZ hown (host := "") (Or.inl (ow121 hw)) Via.refl e177 G180 ((((((((((G89.wr W91).ext E94).keep Kq26).ext E27).keep Kq58).ext E108).keep Kq129).ext E130).keep Kq168).ext E177) (Or.inr ⟨(ow122 hw), rfl, hnm⟩) (ow1 hw) (ty := (.array (.array .long))) (by decide) rfl rfl (g := (mkF m 351 #[oR b2, oI 1, oI 2, oR b4, oR b9, oI 2, oR b108, oI 2, oR b130, oI 2, oI 2, oI 0, oI 2] [vR b177, vR b2])) rfl rfl (hb hby d1_351)
  have Fw181 := Fld.same W181 G180
  have K181 : Keep h0 h181 [b2] := K177.wr W181 (Or.inl (List.mem_of_getElem? (i := 0) rfl))
  have N181 := Fr.snoc X181 N176 n_b2
  refine own_go (T' := T181) (f' := (mkF m 361 #[oR b2, oI 1, oI 2, oR b4, oR b9, oI 0, oR b108, oI 2, oR b130, oI 2, oI 2, oI 0, oI 2] [vR b9, vI 0])) (fun _ k => st181 _ (own_e X181 tt 354 4 k rfl)) ?_
  have G182 := (((((G112.keep Kq129 (ninS q170 nin0)).ext E130).keep Kq168 (ninS q174 (ninS q172 (ninS q171 (ninS q100 nin0))))).ext E177).other W181 (Or.inl (oM PE2.lt sz_b9)))
  have Zs183 : n0 ≤ h181.size := (oT (oT (oT (oT (oT (oT Zs105 E108.1) Kq129.1) E130.1) Kq168.1) E177.1) (Keep.of_wr W181).1)
  obtain ⟨cq184, kq184, q184a, q184b, q184c⟩ := isOf hZ e181 ((((((G106.ext E108).keep Kq129).ext E130).keep Kq168).ext E177).wr W181)
  obtain ⟨_, T184, Lc184, X184, hQ184, st184⟩ := own_out (X181.interfaceBack hx (xi := mn11) (y := mn10) hown (mvT hZ (ow81 hw)) (mvT hZ (ow82 hw)) (mvT hZ (ow83 hw)) (mvT hZ (ow84 hw)) (mvT hZ (ow85 hw)) (mvT hZ (ow86 hw)) (mvT hZ (ow87 hw)) (mvT hZ (ow53 hw)) (by decide) (backOf (W := 1) (rm12a15 l Z a0 hw [] b9 h181 n0 Zs183 G182) hZ (ow88 hw) (ow12 hw) (by decide) (by decide)) q184a q184b q184c (g := (mkF m 361 #[oR b2, oI 1, oI 2, oR b4, oR b9, oI 0, oR b108, oI 2, oR b130, oI 2, oI 2, oI 0, oI 2] [vR b9, vI 0])) rfl (by rw [hml]; rfl) (Steps.refl _) (argsL := []) (rest := [(.int (0 : Int32))]) (lenOf pd0 rfl) rfl (by show 2 * 0 + _ ≤ _; exact Nat.le_of_eq rfl) (hb hby d1_361) (fun _ _ => ⟨rfl, e181, (by decide : 18 + 0 ≤ _), (by decide : 43 + 0 ≤ _)⟩))
  obtain ⟨rfl, N184q, hh184⟩ := hQ184
  have N184 := Fr.app N181 N184q
  obtain ⟨_, X184, N184⟩ := own_hide X184 N184
  refine own_go (T' := T184) (f' := (mkF m 366 #[oR b2, oI 1, oI 2, oR b4, oR b9, oI 0, oR b108, oI 2, oR b130, oI 2, oI 2, oI 0, oI 2] [vI 2, vI 0])) (fun _ k => st184.trans k) ?_
  refine own_mrun2 (a0 := a0) (as := [b108, b130, b2, b177, b4, b9]) (kc := [0, 0, 0, 0, 0, 0]) (fl := [fE1_43 2 (vR 3)]) (cl := []) (wl := []) (ks := []) (na := 6) (ls := [oR 2, oI 1, oI 2, oR 4, oR 5, oI 0, oR 0, oI 2, oR 1, oI 2, oI 2, oI 0, oI 2]) (st := [vI 2, vI 0]) (me := []) (pc' := 377) (ls' := [oR 2, oI 1, oI 2, oR 4, oR 5, oI 0, oR 0, oI 2, oR 1, oI 2, oI 2, oI 0, oI 2]) (st' := [vI 0, vI 0, vR 3]) (ups := []) tt hZ hown X184 N184 hh184 (oA (ow121 hw) trivial) trivial (oA Fw181 trivial) trivial (Or.inl rfl) trivial rfl rfl (by decide +kernel) 5 (by decide +kernel) fun T185 h185 _ X185 N185 e185 K185 q185 M185 => ?_
  have e185 := e185.trans (q185 rfl)
  show own_Ends p e below s _ _ _ T185 (mkF m 377 #[oR b2, oI 1, oI 2, oR b4, oR b9, oI 0, oR b108, oI 2, oR b130, oI 2, oI 2, oI 0, oI 2] [vI 0, vI 0, vR b177])
  obtain ⟨T186, h186, k186, X186, e186, E186, A186, EA186, st186⟩ := newPE (aty := .long) X185 hx hZ (ow123 hw) e185 (g := (mkF m 377 #[oR b2, oI 1, oI 2, oR b4, oR b9, oI 0, oR b108, oI 2, oR b130, oI 2, oI 2, oI 0, oI 2] [vI 0, vI 0, vR b177])) rfl (hb hby d1_377) rfl (by decide) (cap := 0) (by decide) (by decide) (by decide) (by decide) (ad := "[J") (by decide +kernel)
  obtain ⟨b186, g_b186⟩ : ∃ z, z = h181.size := ⟨_, rfl⟩
  have sg_b186 : h181.size ≤ b186 := Nat.le_of_eq g_b186.symm
  rw [← g_b186] at A186 EA186 st186
  have n_b186 := oT Zs183 sg_b186
  have sz_b186 := oT K181.1 sg_b186
  have u187 := (oW V_b177.lt (Keep.of_wr W181).1)
  have m188 : h168.size ≤ h181.size := (oT (oT (Nat.le_refl _) E177.1) (Keep.of_wr W181).1)
  have K186 : Keep h0 h186 [b2] := K181.ext E186
  have V_b186 : Arv Z h186 b186 k186 .long (0 : Int32) [] (.long (0 : Int64)) := Arv.new A186 (by decide)
  refine own_go (T' := T186) (f' := (mkF m 379 #[oR b2, oI 1, oI 2, oR b4, oR b9, oI 0, oR b108, oI 2, oR b130, oI 2, oI 2, oI 0, oI 2] [vR b186, vI 0, vR b177])) (fun _ k => st186 _ k) ?_
  obtain ⟨T189, h189, X189, e189, W189, V189, st189⟩ := own_stR X186 hx hZ e186 ((V_b177.other W181 (oM PE2.lt sz_b177)).ext E186) (j := (0 : Int32)) ⟨by decide, by decide⟩ rfl rfl (fun cl Ar q => Sto.ofVA Ar q O177 (Ins.self EA186)) 0 rfl (Nat.le_of_ble_eq_true rfl) (g := (mkF m 379 #[oR b2, oI 1, oI 2, oR b4, oR b9, oI 0, oR b108, oI 2, oR b130, oI 2, oI 2, oI 0, oI 2] [vR b186, vI 0, vR b177])) rfl rfl (hb hby d1_379)
  have K189 : Keep h0 h189 [b2] := K186.wr W189 (Or.inr sz_b177)
  have V189s : Arv Z h189 b177 k177 (.array .long) (2 : Int32) [(.ref b186), .null] .null := V189
  have N189 := Fr.snoc X189 N185 n_b177
  refine own_go (T' := T189) (f' := (mkF m 361 #[oR b2, oI 1, oI 2, oR b4, oR b9, oI 1, oI 0, oI 2, oR b130, oI 2, oI 2, oI 0, oI 2] [vR b9, vI 1])) (fun _ k => st189 _ (own_e X189 tt 380 9 k rfl)) ?_
  have c190 := oT c173 m179
  have q191 := oL u20 (oT c190 sg_b177)
  obtain ⟨cq192, kq192, q192a, q192b, q192c⟩ := isOf hZ e189 ((((((((G106.ext E108).keep Kq129).ext E130).keep Kq168).ext E177).wr W181).ext E186).wr W189)
  obtain ⟨_, T192, Lc192, X192, hQ192, st192⟩ := own_out (X189.interfaceBack hx (xi := mn11) (y := mn10) hown (mvT hZ (ow81 hw)) (mvT hZ (ow82 hw)) (mvT hZ (ow83 hw)) (mvT hZ (ow84 hw)) (mvT hZ (ow85 hw)) (mvT hZ (ow86 hw)) (mvT hZ (ow87 hw)) (mvT hZ (ow53 hw)) (by decide) (backOf (W := 1) (rm12a15 l Z a0 hw [] b9 h189 n0 (oT (oT Zs183 E186.1) (Keep.of_wr W189).1) ((G182.ext E186).other W189 (Or.inl q191))) hZ (ow88 hw) (ow12 hw) (by decide) (by decide)) q192a q192b q192c (g := (mkF m 361 #[oR b2, oI 1, oI 2, oR b4, oR b9, oI 1, oI 0, oI 2, oR b130, oI 2, oI 2, oI 0, oI 2] [vR b9, vI 1])) rfl (by rw [hml]; rfl) (Steps.refl _) (argsL := []) (rest := [(.int (1 : Int32))]) (lenOf pd0 rfl) rfl (by show 2 * 0 + _ ≤ _; exact Nat.le_of_eq rfl) (hb hby d1_361) (fun _ _ => ⟨rfl, e189, (by decide : 19 + 0 ≤ _), (by decide : 43 + 0 ≤ _)⟩))
  obtain ⟨rfl, N192q, hh192⟩ := hQ192
  have N192 := Fr.app N189 N192q
  obtain ⟨_, X192, N192⟩ := own_hide X192 N192
  refine own_go (T' := T192) (f' := (mkF m 366 #[oR b2, oI 1, oI 2, oR b4, oR b9, oI 1, oI 0, oI 2, oR b130, oI 2, oI 2, oI 0, oI 2] [vI 2, vI 1])) (fun _ k => st192.trans k) ?_
  refine own_mrun2 (a0 := a0) (as := [b130, b2, b177, b4, b9]) (kc := [0, 0, 0, 0, 0]) (fl := [fE1_43 1 (vR 2)]) (cl := []) (wl := []) (ks := []) (na := 5) (ls := [oR 1, oI 1, oI 2, oR 3, oR 4, oI 1, oI 0, oI 2, oR 0, oI 2, oI 2, oI 0, oI 2]) (st := [vI 2, vI 1]) (me := []) (pc' := 377) (ls' := [oR 1, oI 1, oI 2, oR 3, oR 4, oI 1, oI 0, oI 2, oR 0, oI 2, oI 2, oI 0, oI 2]) (st' := [vI 1, vI 1, vR 2]) (ups := []) tt hZ hown X192 N192 hh192 (oA (ow121 hw) trivial) trivial (oA ((Fw181.ext E186).other W189 (Or.inl (oL PE2.lt sz_b177))) trivial) trivial (Or.inl rfl) trivial rfl rfl (by decide +kernel) 5 (by decide +kernel) fun T193 h193 _ X193 N193 e193 K193 q193 M193 => ?_
  have e193 := e193.trans (q193 rfl)
  show own_Ends p e below s _ _ _ T193 (mkF m 377 #[oR b2, oI 1, oI 2, oR b4, oR b9, oI 1, oI 0, oI 2, oR b130, oI 2, oI 2, oI 0, oI 2] [vI 1, vI 1, vR b177])
  obtain ⟨T194, h194, k194, X194, e194, E194, A194, EA194, st194⟩ := newPE (aty := .long) X193 hx hZ (ow123 hw) e193 (g := (mkF m 377 #[oR b2, oI 1, oI 2, oR b4, oR b9, oI 1, oI 0, oI 2, oR b130, oI 2, oI 2, oI 0, oI 2] [vI 1, vI 1, vR b177])) rfl (hb hby d1_377) rfl (by decide) (cap := 1) (by decide) (by decide) (by decide) (by decide) (ad := "[J") (by decide +kernel)
  obtain ⟨b194, g_b194⟩ : ∃ z, z = h189.size := ⟨_, rfl⟩
  have sg_b194 : h189.size ≤ b194 := Nat.le_of_eq g_b194.symm
  rw [← g_b194] at A194 EA194 st194
  have n_b194 := oT (oT (oT Zs183 E186.1) (Keep.of_wr W189).1) sg_b194
  have sz_b194 := oT K189.1 sg_b194
  have u195 := (oW V_b186.lt (Keep.of_wr W189).1)
  have m196 : h181.size ≤ h189.size := (oT (oT (Nat.le_refl _) E186.1) (Keep.of_wr W189).1)
  have K194 : Keep h0 h194 [b2] := K189.ext E194
  have V_b194 : Arv Z h194 b194 k194 .long (1 : Int32) [(.long (0 : Int64))] (.long (0 : Int64)) := (Arv.new A194 (by decide)).pad (pad_rep [] (.long (0 : Int64)) 1)
  refine own_go (T' := T194) (f' := (mkF m 379 #[oR b2, oI 1, oI 2, oR b4, oR b9, oI 1, oI 0, oI 2, oR b130, oI 2, oI 2, oI 0, oI 2] [vR b194, vI 1, vR b177])) (fun _ k => st194 _ k) ?_
  obtain ⟨T197, h197, X197, e197, W197, V197, st197⟩ := own_stR X194 hx hZ e194 (V189s.ext E194) (j := (1 : Int32)) ⟨by decide, by decide⟩ rfl rfl (fun cl Ar q => Sto.ofVA Ar q O177 (Ins.self EA194)) 1 rfl (Nat.le_of_ble_eq_true rfl) (g := (mkF m 379 #[oR b2, oI 1, oI 2, oR b4, oR b9, oI 1, oI 0, oI 2, oR b130, oI 2, oI 2, oI 0, oI 2] [vR b194, vI 1, vR b177])) rfl rfl (hb hby d1_379)
  have K197 : Keep h0 h197 [b2] := K194.wr W197 (Or.inr sz_b177)
  have V197s : Arv Z h197 b177 k177 (.array .long) (2 : Int32) [(.ref b186), (.ref b194)] .null := V197
  have N197 := Fr.snoc X197 N193 n_b177
  refine own_go (T' := T197) (f' := (mkF m 380 #[oR b2, oI 1, oI 2, oR b4, oR b9, oI 1, oI 0, oI 2, oR b130, oI 2, oI 2, oI 0, oI 2] [])) (fun _ k => st197 _ k) ?_
  refine own_mrun2 (a0 := a0) (as := [b130, b2, b177, b186, b194, b4, b9]) (kc := [0, 0, k177, 0, 0, 0, 0]) (fl := [fE1_43 1 (vR 2)]) (cl := []) (wl := []) (ks := [2]) (na := 7) (ls := [oR 1, oI 1, oI 2, oR 5, oR 6, oI 1, oI 0, oI 2, oR 0, oI 2, oI 2, oI 0, oI 2]) (st := []) (me := [(2, (.array .long), 2, [vR 3, vR 4])]) (pc' := 405) (ls' := [oR 1, oI 1, oI 2, oR 5, oR 6, oI 1, oI 0, oI 2, oR 0, oI 2, oI 2, oI 0, oI 2]) (st' := [vI 0, vR 1, vI 1, vR 1, vI 0, vR 4]) (ups := []) tt hZ hown X197 N197 e197 (oA (ow121 hw) trivial) trivial (oA ((((Fw181.ext E186).other W189 (Or.inl (oL PE2.lt sz_b177))).ext E194).other W197 (Or.inl (oL PE2.lt sz_b177))) trivial) (oA V197s trivial) (Or.inl rfl) trivial rfl rfl (by decide +kernel) 14 (by decide +kernel) fun T198 h198 _ X198 N198 e198 K198 q198 M198 => ?_
  have e198 := e198.trans (q198 rfl)
  show own_Ends p e below s _ _ _ T198 (mkF m 405 #[oR b2, oI 1, oI 2, oR b4, oR b9, oI 1, oI 0, oI 2, oR b130, oI 2, oI 2, oI 0, oI 2] [vI 0, vR b2, vI 1, vR b2, vI 0, vR b194])
  have G199 := (((((((G163.keep Kq168 (ninS (oL PE2.lt sz_b130) (ninS (oL PE2.lt sz_x67b) (ninS (oL PE2.lt sz_x75b) (ninS (oL PE2.lt sz_b84) nin0))))).ext E177).other W181 (Or.inr (sn_92_122 hw))).ext E186).other W189 (Or.inl (oL PE2.lt sz_b177))).ext E194).other W197 (Or.inl (oL PE2.lt sz_b177)))
  have G200 := (((((((G164.keep Kq168 (ninS (oL PE2.lt sz_b130) (ninS (oL PE2.lt sz_x67b) (ninS (oL PE2.lt sz_x75b) (ninS (oL PE2.lt sz_b84) nin0))))).ext E177).other W181 (Or.inr (sn_94_122 hw))).ext E186).other W189 (Or.inl (oL PE2.lt sz_b177))).ext E194).other W197 (Or.inl (oL PE2.lt sz_b177)))
  have G201 := (((((((G165.keep Kq168 (ninS (oL PE2.lt sz_b130) (ninS (oL PE2.lt sz_x67b) (ninS (oL PE2.lt sz_x75b) (ninS (oL PE2.lt sz_b84) nin0))))).ext E177).other W181 (Or.inr (sn_96_122 hw))).ext E186).other W189 (Or.inl (oL PE2.lt sz_b177))).ext E194).other W197 (Or.inl (oL PE2.lt sz_b177)))
  have c202 := oT c136 m132
  have q203 := oL u76 (oT c202 sg_b130)
  have c204 := oT c202 m179
  have q205 := oL u76 (oT c204 sg_b177)
  have G206 := (((((((G138.keep Kq168 (ninS q203 (ninS (Ne.symm nn_x67b_b67) (ninS (oL u76 sg_x75b) (ninS q133 nin0))))).ext E177).other W181 (oM PE2.lt sz_b67)).ext E186).other W189 q205).ext E194).other W197 q205)
  have q207 := oL u77 (oT c136 sg_b108)
  have q208 := oL u77 (oT m88 sg_b84)
  have q209 := oL u77 (oT c202 sg_b130)
  have q210 := oL u77 (oT c204 sg_b177)
  have G211 := ((((((((((V58_4.ext E108).keep Kq129 (ninS q207 nin0)).ext E130).keep Kq168 (ninS q209 (ninS (Ne.symm nn_x67b_x67a) (ninS (oL u77 sg_x75b) (ninS q208 nin0))))).ext E177).other W181 (oM PE2.lt sz_x67a)).ext E186).other W189 q210).ext E194).other W197 q210)
  have c212 := oT c154 m132
  have q213 := oL u85 (oT c212 sg_b130)
  have c214 := oT c212 m179
  have q215 := oL u85 (oT c214 sg_b177)
  have G216 := (((((((G156.keep Kq168 (ninS q213 (ninS (oM u78 sg_b75) (ninS (Ne.symm nn_x75b_b75) (ninS (oL u85 sg_b84) nin0))))).ext E177).other W181 (oM PE2.lt sz_b75)).ext E186).other W189 q215).ext E194).other W197 q215)
  have q217 := oL u86 (oT c154 sg_b108)
  have q218 := oL u86 (oT c212 sg_b130)
  have q219 := oL u86 (oT c214 sg_b177)
  have G220 := ((((((((((V58_6.ext E108).keep Kq129 (ninS q217 nin0)).ext E130).keep Kq168 (ninS q218 (ninS (oM u78 sg_x75a) (ninS (Ne.symm nn_x75b_x75a) (ninS (oL u86 sg_b84) nin0))))).ext E177).other W181 (oM PE2.lt sz_x75a)).ext E186).other W189 q219).ext E194).other W197 q219)
  have c221 := oT c161 m132
  have c222 := oT c221 m179
  have q223 := oL u95 (oT c222 sg_b177)
  have G224 := (((((((((((((((G89.wr W91).ext E94).keep Kq26).ext E27).keep Kq58).ext E108).keep Kq129).ext E130).keep Kq168).ext E177).wr W181).ext E186).wr W189).ext E194).wr W197)
  obtain ⟨cq225, q225, q225'⟩ := G224.cell
  obtain ⟨_, T225, Lc225, X225, hQ225, st225⟩ := own_out (X198.privateBack hx (y := mn17) hown (mvT hZ (ow125 hw)) (mvT hZ (ow126 hw)) (own_seli (mvT hZ (ow1 hw)) (Cond.privateMethod_at (mvP hZ (ow127 hw) (args := #[]))) (mvT hZ (ow126 hw)) (by decide)) (Cond.privateMethod_at (mvP hZ (ow127 hw) (args := #[]))) (mvT hZ (ow128 hw)) (by decide) (backOf (W := 4) (rm17a24 l Z a0 hw [] b2 b67 b75 b84 k67 x67a x67b kc67 k75 x75a x75b kc75 k84 h197 n0 (oT (oT (oT (oT Zs183 E186.1) (Keep.of_wr W189).1) E194.1) (Keep.of_wr W197).1) G199 G200 G201 G206 G211 G216 G220 ((((((V168_7.ext E177).other W181 (oM PE2.lt sz_b84)).ext E186).other W189 q223).ext E194).other W197 q223)) hZ (ow128 hw) (ow2 hw) (by decide) (by decide)) (g := (mkF m 405 #[oR b2, oI 1, oI 2, oR b4, oR b9, oI 1, oI 0, oI 2, oR b130, oI 2, oI 2, oI 0, oI 2] [vI 0, vR b2, vI 1, vR b2, vI 0, vR b194])) rfl (by rw [hml]; rfl) (Steps.refl _) (a := b2) (by rw [e198]; exact q225) q225' (argsL := [(.int (0 : Int32))]) (rest := [(.int (1 : Int32)), (.ref b2), (.int (0 : Int32)), (.ref b194)]) (lenOf pd4 rfl) rfl (by show 2 * 0 + _ ≤ _; exact Nat.le_of_eq rfl) (hb hby d1_405) (fun _ _ => ⟨rfl, e198, (by decide : 20 + 0 ≤ _), (by decide : 44 + 0 ≤ _)⟩))
  obtain ⟨rfl, N225q, hh225⟩ := hQ225
  have N225 := Fr.app N198 N225q
  obtain ⟨_, X225, N225⟩ := own_hide X225 N225
  refine own_go (T' := T225) (f' := (mkF m 408 #[oR b2, oI 1, oI 2, oR b4, oR b9, oI 1, oI 0, oI 2, oR b130, oI 2, oI 2, oI 0, oI 2] [(.long (-4294967296 : Int64)), vI 1, vR b2, vI 0, vR b194])) (fun _ k => st225.trans k) ?_
  have q226 := oL u78 (oT c204 sg_b177)
  have q227 := oL u87 (oT c214 sg_b177)
  obtain ⟨cq228, kq228, q228a, q228b, q228c⟩ := isOf hZ hh225 G224
  obtain ⟨_, T228, Lc228, X228, hQ228, st228⟩ := own_out (X225.virtualBack hx (y := mn18) (z := mn18) hown (mvT hZ (ow130 hw)) (mvT hZ (ow131 hw)) (notFace_of_selects (args := #[]) (mvT hZ (ow133 hw))) (mvT hZ (ow133 hw)) (mvT hZ (ow132 hw)) (by decide) (backOf (W := 2) (rm18a25 l Z a0 hw [] b2 b67 b75 k67 x67a x67b kc67 k75 x75a x75b kc75 h197 n0 (oT (oT (oT (oT Zs183 E186.1) (Keep.of_wr W189).1) E194.1) (Keep.of_wr W197).1) G199 G200 G206 ((((((V168_4.ext E177).other W181 (oM PE2.lt sz_x67b)).ext E186).other W189 q226).ext E194).other W197 q226) G216 ((((((V168_6.ext E177).other W181 (oM PE2.lt sz_x75b)).ext E186).other W189 q227).ext E194).other W197 q227)) hZ (ow134 hw) (ow2 hw) (by decide) (by decide)) q228a q228c (g := (mkF m 408 #[oR b2, oI 1, oI 2, oR b4, oR b9, oI 1, oI 0, oI 2, oR b130, oI 2, oI 2, oI 0, oI 2] [(.long (-4294967296 : Int64)), vI 1, vR b2, vI 0, vR b194])) rfl (by rw [hml]; rfl) (Steps.refl _) (argsL := [(.int (1 : Int32)), (.long (-4294967296 : Int64))]) (rest := [(.int (0 : Int32)), (.ref b194)]) (lenOf pd11 rfl) rfl (by show 2 * 0 + _ ≤ _; exact Nat.le_of_eq rfl) (hb hby d1_408) (fun _ _ => ⟨rfl, hh225, (by decide : 20 + 0 ≤ _), (by decide : 44 + 0 ≤ _)⟩))
  obtain ⟨rfl, N228q, hh228⟩ := hQ228
  have N228 := Fr.app N225 N228q
  obtain ⟨_, X228, N228⟩ := own_hide X228 N228
  refine own_go (T' := T228) (f' := (mkF m 411 #[oR b2, oI 1, oI 2, oR b4, oR b9, oI 1, oI 0, oI 2, oR b130, oI 2, oI 2, oI 0, oI 2] [(.long (4294967295 : Int64)), vI 0, vR b194])) (fun _ k => st228.trans k) ?_
  have q229 := oM u187 (oT m196 sg_b194)
  obtain ⟨T230, h230, X230, e230, W230, V230, st230⟩ := own_stJ X228 hx hZ hh228 (V_b194.other W197 q229) (j := (0 : Int32)) ⟨by decide, by decide⟩ 0 rfl (Nat.le_of_ble_eq_true rfl) (g := (mkF m 411 #[oR b2, oI 1, oI 2, oR b4, oR b9, oI 1, oI 0, oI 2, oR b130, oI 2, oI 2, oI 0, oI 2] [(.long (4294967295 : Int64)), vI 0, vR b194])) rfl rfl (hb hby d1_411)
  have K230 : Keep h0 h230 [b2] := K197.wr W230 (Or.inr sz_b194)
  have V230s : Arv Z h230 b194 k194 .long (1 : Int32) [(.long (4294967295 : Int64))] (.long (0 : Int64)) := V230
  have N230 := Fr.snoc X230 N228 n_b194
  refine own_go (T' := T230) (f' := (mkF m 361 #[oR b2, oI 1, oI 2, oR b4, oR b9, oI 2, oI 1, oI 2, oR b130, oI 2, oI 2, oI 0, oI 2] [vR b9, vI 2])) (fun _ k => st230 _ (own_e X230 tt 412 9 k rfl)) ?_
  have c231 := oT c190 m188
  have c232 := oT c231 m196
  have q233 := oL u20 (oT c232 sg_b194)
  have Zs234 : n0 ≤ h230.size := (oT (oT (oT (oT (oT Zs183 E186.1) (Keep.of_wr W189).1) E194.1) (Keep.of_wr W197).1) (Keep.of_wr W230).1)
  have G235 := (((((((((((G106.ext E108).keep Kq129).ext E130).keep Kq168).ext E177).wr W181).ext E186).wr W189).ext E194).wr W197).wr W230)
  obtain ⟨cq236, kq236, q236a, q236b, q236c⟩ := isOf hZ e230 G235
  obtain ⟨_, T236, Lc236, X236, hQ236, st236⟩ := own_out (X230.interfaceBack hx (xi := mn11) (y := mn10) hown (mvT hZ (ow81 hw)) (mvT hZ (ow82 hw)) (mvT hZ (ow83 hw)) (mvT hZ (ow84 hw)) (mvT hZ (ow85 hw)) (mvT hZ (ow86 hw)) (mvT hZ (ow87 hw)) (mvT hZ (ow53 hw)) (by decide) (backOf (W := 1) (rm12a15 l Z a0 hw [] b9 h230 n0 Zs234 (((((G182.ext E186).other W189 (Or.inl q191)).ext E194).other W197 (Or.inl q191)).other W230 (Or.inl q233))) hZ (ow88 hw) (ow12 hw) (by decide) (by decide)) q236a q236b q236c (g := (mkF m 361 #[oR b2, oI 1, oI 2, oR b4, oR b9, oI 2, oI 1, oI 2, oR b130, oI 2, oI 2, oI 0, oI 2] [vR b9, vI 2])) rfl (by rw [hml]; rfl) (Steps.refl _) (argsL := []) (rest := [(.int (2 : Int32))]) (lenOf pd0 rfl) rfl (by show 2 * 0 + _ ≤ _; exact Nat.le_of_eq rfl) (hb hby d1_361) (fun _ _ => ⟨rfl, e230, (by decide : 20 + 0 ≤ _), (by decide : 44 + 0 ≤ _)⟩))
  obtain ⟨rfl, N236q, hh236⟩ := hQ236
  have N236 := Fr.app N230 N236q
  obtain ⟨_, X236, N236⟩ := own_hide X236 N236
  refine own_go (T' := T236) (f' := (mkF m 424 #[oR b2, oI 1, oI 2, oR b4, oR b9, oI 2, oI 1, oI 2, oR b130, oI 2, oI 2, oI 0, oI 2] [])) (fun _ k => st236.trans (own_e X236 tt 366 1 k rfl)) ?_
  refine own_ret X236 (v := none) (fun _ => rfl) Bs (fun fs hr => X236.returnOut hx Br (hb hby d1_424) hr) ?_ (by decide) (by decide)
  unfold Q1a1
  have c237 := oT c204 m188
  have q238 := oM u76 (oT c237 sg_b186)
  have q239 := oM u77 (oT c237 sg_b186)
  have q240 := oM u78 (oT c237 sg_b186)
  have c241 := oT c214 m188
  have q242 := oM u85 (oT c241 sg_b186)
  have q243 := oM u86 (oT c241 sg_b186)
  have q244 := oM u87 (oT c241 sg_b186)
  have c245 := oT c222 m188
  have q246 := oM u95 (oT c245 sg_b186)
  have c247 := oT c237 m196
  have q248 := oM u76 (oT c247 sg_b194)
  have q249 := oM u77 (oT c247 sg_b194)
  have q250 := oM u78 (oT c247 sg_b194)
  have c251 := oT c241 m196
  have q252 := oM u85 (oT c251 sg_b194)
  have q253 := oM u86 (oT c251 sg_b194)
  have q254 := oM u87 (oT c251 sg_b194)
  have c255 := oT c245 m196
  have q256 := oM u95 (oT c255 sg_b194)
  have G257 := (((((Fw181.ext E186).other W189 (Or.inl (oL PE2.lt sz_b177))).ext E194).other W197 (Or.inl (oL PE2.lt sz_b177))).other W230 (Or.inl (oL PE2.lt sz_b194)))
  have G258 := ((((((((((((((((((((EE_b67.wr W73).ext E75).wr W81).ext E84).wr W91).ext E94).keep Kq26).ext E27).keep Kq58).ext E108).keep Kq129).ext E130).keep Kq168).ext E177).wr W181).ext E186).wr W189).ext E194).wr W197).wr W230)
  have G259 := ((((((((((((((((((((EE_x67a.wr W73).ext E75).wr W81).ext E84).wr W91).ext E94).keep Kq26).ext E27).keep Kq58).ext E108).keep Kq129).ext E130).keep Kq168).ext E177).wr W181).ext E186).wr W189).ext E194).wr W197).wr W230)
  have G260 := (((((((V168_4.ext E177).other W181 (oM PE2.lt sz_x67b)).ext E186).other W189 q226).ext E194).other W197 q226).other W230 (Ne.symm q250))
  have G261 := ((((((((((((((((((((EE_x67b.wr W73).ext E75).wr W81).ext E84).wr W91).ext E94).keep Kq26).ext E27).keep Kq58).ext E108).keep Kq129).ext E130).keep Kq168).ext E177).wr W181).ext E186).wr W189).ext E194).wr W197).wr W230)
  have G262 := ((((((((((((((((((EE_b75.wr W81).ext E84).wr W91).ext E94).keep Kq26).ext E27).keep Kq58).ext E108).keep Kq129).ext E130).keep Kq168).ext E177).wr W181).ext E186).wr W189).ext E194).wr W197).wr W230)
  have G263 := ((((((((((((((((((EE_x75a.wr W81).ext E84).wr W91).ext E94).keep Kq26).ext E27).keep Kq58).ext E108).keep Kq129).ext E130).keep Kq168).ext E177).wr W181).ext E186).wr W189).ext E194).wr W197).wr W230)
  have G264 := (((((((V168_6.ext E177).other W181 (oM PE2.lt sz_x75b)).ext E186).other W189 q227).ext E194).other W197 q227).other W230 (Ne.symm q254))
  have G265 := ((((((((((((((((((EE_x75b.wr W81).ext E84).wr W91).ext E94).keep Kq26).ext E27).keep Kq58).ext E108).keep Kq129).ext E130).keep Kq168).ext E177).wr W181).ext E186).wr W189).ext E194).wr W197).wr W230)
  have G266 := (((((((V168_7.ext E177).other W181 (oM PE2.lt sz_b84)).ext E186).other W189 q223).ext E194).other W197 q223).other W230 (Ne.symm q256))
  have G267 := ((((((((((((((((EA84.wr W91).ext E94).keep Kq26).ext E27).keep Kq58).ext E108).keep Kq129).ext E130).keep Kq168).ext E177).wr W181).ext E186).wr W189).ext E194).wr W197).wr W230)
  rw [hh236]
  exact ⟨b67, k67, x67a, kc67, x67b, b75, k75, x75a, kc75, x75b, b84, k84, b177, k177, b186, k186, b194, k194, rfl, N236, K230, n_b67, sz_b67, n_x67a, sz_x67a, n_x67b, sz_x67b, n_b75, sz_b75, n_x75a, sz_x75a, n_x75b, sz_x75b, n_b84, sz_b84, n_b177, sz_b177, n_b186, sz_b186, n_b194, sz_b194, nn_x67a_b67, nn_x67b_b67, nn_x67b_x67a, (oM u76 sg_b75), (oM u77 sg_b75), (oM u78 sg_b75), (oM u76 sg_x75a), (oM u77 sg_x75a), (oM u78 sg_x75a), nn_x75a_b75, (oM u76 sg_x75b), (oM u77 sg_x75b), (oM u78 sg_x75b), nn_x75b_b75, nn_x75b_x75a, (Ne.symm q133), (Ne.symm q208), (Ne.symm q148), (oM u85 sg_b84), (oM u86 sg_b84), (oM u87 sg_b84), (Ne.symm q205), (Ne.symm q210), (Ne.symm q226), (Ne.symm q215), (Ne.symm q219), (Ne.symm q227), (Ne.symm q223), q238, q239, q240, q242, q243, q244, q246, (oM u187 sg_b186), q248, q249, q250, q252, q253, q254, q256, q229, (oM u195 sg_b194), (G199.other W230 (Or.inl (oL PE2.lt sz_b194))), (G200.other W230 (Or.inl (oL PE2.lt sz_b194))), (G201.other W230 (Or.inl (oL PE2.lt sz_b194))), G257, (G206.other W230 (Ne.symm q248)), O67, G258, (G211.other W230 (Ne.symm q249)), G259, G260, G261, (G216.other W230 (Ne.symm q252)), O75, G262, (G220.other W230 (Ne.symm q253)), G263, G264, G265, G266, G267, (V197s.other W230 (Ne.symm q229)), O177, ((((((EA177.wr W181).ext E186).wr W189).ext E194).wr W197).wr W230), ((((V_b186.other W189 (oM u187 sg_b186)).ext E194).other W197 (oM u187 sg_b186)).other W230 (oL u195 sg_b194)), ((((EA186.wr W189).ext E194).wr W197).wr W230), V230s, ((EA194.wr W197).wr W230)⟩
theorem pd8 : parseMethodDescriptor "(II)V" = some ⟨[.int, .int], none⟩ := by decide +kernel
def own_t19 (pc : Nat) : Option (Instr × Nat) := bif Nat.ble pc 20 then (bif Nat.ble pc 8 then (bif Nat.ble pc 4 then (bif Nat.ble pc 0 then (bif Nat.beq pc 0 then some (.aload_n 0, 1) else none) else (bif Nat.ble pc 1 then (bif Nat.beq pc 1 then some (.getfield 43, 3) else none) else (bif Nat.beq pc 4 then some (.iload_n 1, 1) else none))) else (bif Nat.ble pc 5 then (bif Nat.beq pc 5 then some (.aaload, 1) else none) else (bif Nat.ble pc 6 then (bif Nat.beq pc 6 then some (.astore 4, 2) else none) else (bif Nat.beq pc 8 then some (.aload 4, 2) else none)))) else (bif Nat.ble pc 13 then (bif Nat.ble pc 10 then (bif Nat.beq pc 10 then some (.arraylength, 1) else none) else (bif Nat.ble pc 11 then (bif Nat.beq pc 11 then some (.istore 5, 2) else none) else (bif Nat.beq pc 13 then some (.iconst 0, 1) else none))) else (bif Nat.ble pc 16 then (bif Nat.ble pc 14 then (bif Nat.beq pc 14 then some (.istore 6, 2) else none) else (bif Nat.beq pc 16 then some (.iload 6, 2) else none)) else (bif Nat.ble pc 18 then (bif Nat.beq pc 18 then some (.iload 5, 2) else none) else (bif Nat.beq pc 20 then some (.if_icmp .ge 27, 3) else none))))) else (bif Nat.ble pc 33 then (bif Nat.ble pc 28 then (bif Nat.ble pc 23 then (bif Nat.beq pc 23 then some (.aload 4, 2) else none) else (bif Nat.ble pc 25 then (bif Nat.beq pc 25 then some (.iload 6, 2) else none) else (bif Nat.beq pc 28 then some (.lstore 7, 2) else none))) else (bif Nat.ble pc 30 then (bif Nat.beq pc 30 then some (.lload_n 2, 1) else none) else (bif Nat.ble pc 31 then (bif Nat.beq pc 31 then some (.lload 7, 2) else none) else (bif Nat.beq pc 33 then some (.land, 1) else none)))) else (bif Nat.ble pc 36 then (bif Nat.ble pc 34 then (bif Nat.beq pc 34 then some (.lconst 0, 1) else none) else (bif Nat.ble pc 35 then (bif Nat.beq pc 35 then some (.lcmp, 1) else none) else (bif Nat.beq pc 36 then some (.ifCond .ne 5, 3) else none))) else (bif Nat.ble pc 41 then (bif Nat.ble pc 39 then (bif Nat.beq pc 39 then some (.iconst 1, 1) else none) else (bif Nat.beq pc 41 then some (.iinc 6 1, 3) else none)) else (bif Nat.ble pc 44 then (bif Nat.beq pc 44 then some (.goto (-28), 3) else none) else (bif Nat.beq pc 47 then some (.iconst 0, 1) else none)))))
theorem own_ok19 : ∀ pc q, own_fetch 49 own_t19 pc = some q → decode prog_28_method_7_code pc = .ok q := own_tab (by decide +kernel)
theorem d19_48 : decode prog_28_method_7_code 48 = .ok (.ireturn, 1) := by decide +kernel
def Q19a26 (Z : State)  (h0 : Heap) (n0 : Nat) (v : Option Value) (h : Heap) (L : List Loc) : Prop := v = some (.int (0 : Int32)) ∧ Fr n0 L ∧ h = h0
set_option maxRecDepth 65536 in
set_option maxHeartbeats 40000000 in
theorem rm19a26 (l : Launch) (Z : State) (a0 : Array Value) (hw : HW a0 Z) (ws : List Jvm.Cond) (b2 : Addr) (zd : Int64) (b3m : Addr) (k3n : ClassId) (b3o : Addr) (b3q : Addr) (k3p : ClassId) (h0 : Heap) (n0 : Nat) (Z0 : n0 ≤ h0.size) (PF6 : oF6 Z h0 b2 (.ref b3m)) (PV21 : Arv Z h0 b3m k3n (.array .long) (2 : Int32) [(.ref b3o), (.ref b3q)] .null) (PV23 : Arv Z h0 b3o k3p .long (0 : Int32) [] (.long (0 : Int64))) :
    own_Met l mn20 prog_28_method_7_code 9 (some .boolean) ws (oRm 0 0 0 0) #[(.ref b2), (.int (0 : Int32)), (.long zd)] Z h0 (Q19a26 Z  h0 n0) := by
  refine own_met (own := "com/example/libakin/libakin/simhash/Layout") rfl (plainFor_of_name pn_0) ?_
  intro p e s m below meth c s₁ hx hby hml hZ hown hnm X0 e0 Br Bs
  have N0 := Fr.nil n0
  have tt := own_tt hx hby own_ok19
  show own_Ends p e below s _ _ _ s₁ (mkF m 0 #[oR b2, oI 0, .val (.long zd), oS, oU, oU, oU, oU, oU] [])
  refine own_mrun3 (a0 := a0) (as := [b2, b3m, b3o, b3q]) (kc := [0, k3n, k3p, 0]) (fl := [fE19_43 0 (vR 1)]) (cl := []) (wl := []) (ks := [1, 2]) (na := 4) (ls := [oR 0, oI 0, .val (.long zd), oS, oU, oU, oU, oU, oU]) (st := []) (me := [(1, (.array .long), 2, [vR 2, vR 3]), (2, .long, 0, [])]) (pc' := 48) (ls' := [oR 0, oI 0, .val (.long zd), oS, oR 2, oI 0, oI 0, oU, oU]) (st' := [vI 0]) (ups := []) tt hZ hown X0 N0 e0 (oA (ow121 hw) trivial) trivial (oA PF6 trivial) (oA PV21 (oA PV23 trivial)) (Or.inl rfl) trivial rfl rfl (by decide +kernel) 14 rfl fun T4 h4 _ X4 N4 e4 K4 q4 M4 => ?_
  have e4 := e4.trans (q4 rfl)
  show own_Ends p e below s _ _ _ T4 (mkF m 48 #[oR b2, oI 0, .val (.long zd), oS, oR b3o, oI 0, oI 0, oU, oU] [vI 0])
  refine own_ret X4 (v := some (.int (0 : Int32))) (oN Br) Bs (fun fs hr => retN X4 hx (t := .boolean) Br (by simp) (hb hby d19_48) hr) ?_ (by decide) (by decide)
  unfold Q19a26
  exact ⟨rfl, N4, e4⟩
theorem pd12 : parseMethodDescriptor "(IJ)Z" = some ⟨[.int, .long], some .boolean⟩ := by decide +kernel
theorem d19_27 : decode prog_28_method_7_code 27 = .ok (.laload, 1) := by decide +kernel
theorem d19_36 : decode prog_28_method_7_code 36 = .ok (.ifCond .ne 5, 3) := by decide +kernel
theorem d19_40 : decode prog_28_method_7_code 40 = .ok (.ireturn, 1) := by decide +kernel
def Q19a27 (Z : State)  (h0 : Heap) (n0 : Nat) (v : Option Value) (h : Heap) (L : List Loc) : Prop := v = some (.int (1 : Int32)) ∧ Fr n0 L ∧ h = h0
set_option maxRecDepth 65536 in
set_option maxHeartbeats 40000000 in
theorem rm19a27 (l : Launch) (Z : State) (a0 : Array Value) (hw : HW a0 Z) (ws : List Jvm.Cond) (b2 : Addr) (zd : Int64) (b3m : Addr) (k3n : ClassId) (b3o : Addr) (b3q : Addr) (k3r : ClassId) (h0 : Heap) (n0 : Nat) (Z0 : n0 ≤ h0.size) (PF6 : oF6 Z h0 b2 (.ref b3m)) (PV21 : Arv Z h0 b3m k3n (.array .long) (2 : Int32) [(.ref b3o), (.ref b3q)] .null) (PV25 : Arv Z h0 b3q k3r .long (1 : Int32) [(.long (4294967295 : Int64))] (.long (0 : Int64))) (PP0 : (zd &&& (4294967295 : Int64)) = (0 : Int64)) :
    own_Met l mn20 prog_28_method_7_code 9 (some .boolean) ws (oRm 0 0 0 0) #[(.ref b2), (.int (1 : Int32)), (.long zd)] Z h0 (Q19a27 Z  h0 n0) := by
  refine own_met (own := "com/example/libakin/libakin/simhash/Layout") rfl (plainFor_of_name pn_0) ?_
  intro p e s m below meth c s₁ hx hby hml hZ hown hnm X0 e0 Br Bs
  have N0 := Fr.nil n0
  have tt := own_tt hx hby own_ok19
  show own_Ends p e below s _ _ _ s₁ (mkF m 0 #[oR b2, oI 1, .val (.long zd), oS, oU, oU, oU, oU, oU] [])
  refine own_mrun3 (a0 := a0) (as := [b2, b3m, b3o, b3q]) (kc := [0, k3n, 0, k3r]) (fl := [fE19_43 0 (vR 1)]) (cl := []) (wl := []) (ks := [1, 3]) (na := 4) (ls := [oR 0, oI 1, .val (.long zd), oS, oU, oU, oU, oU, oU]) (st := []) (me := [(1, (.array .long), 2, [vR 2, vR 3]), (3, .long, 1, [.long 4294967295])]) (pc' := 27) (ls' := [oR 0, oI 1, .val (.long zd), oS, oR 3, oI 1, oI 0, oU, oU]) (st' := [vI 0, vR 3]) (ups := []) tt hZ hown X0 N0 e0 (oA (ow121 hw) trivial) trivial (oA PF6 trivial) (oA PV21 (oA PV25 trivial)) (Or.inl rfl) trivial rfl rfl (by decide +kernel) 15 rfl fun T4 h4 _ X4 N4 e4 K4 q4 M4 => ?_
  have e4 := e4.trans (q4 rfl)
  show own_Ends p e below s _ _ _ T4 (mkF m 27 #[oR b2, oI 1, .val (.long zd), oS, oR b3q, oI 1, oI 0, oU, oU] [vI 0, vR b3q])
  refine own_go (T' := T4) (f' := (mkF m 36 #[oR b2, oI 1, .val (.long zd), oS, oR b3q, oI 1, oI 0, .val (.long (4294967295 : Int64)), oS] [(.int (lcmpW (zd &&& (4294967295 : Int64)) (0 : Int64)))])) (fun _ k => own_ldJ X4 hx hZ e4 PV25 (j := (0 : Int32)) (x := (4294967295 : Int64)) ⟨by decide, by decide⟩ rfl rfl rfl (hb hby d19_27) (own_e X4 tt 28 6 k rfl)) ?_
  refine own_go (T' := T4) (f' := (mkF m 40 #[oR b2, oI 1, .val (.long zd), oS, oR b3q, oI 1, oI 0, .val (.long (4294967295 : Int64)), oS] [vI 1])) (fun _ k => XS.ifNo X4.here hx rfl (hb hby d19_36) rfl ((if0 _ _).trans (teq ((own_lc_eq (a := (zd &&& (4294967295 : Int64))) (b := (0 : Int64))).mpr PP0)).2) (own_e X4 tt 39 1 k rfl)) ?_
  refine own_ret X4 (v := some (.int (1 : Int32))) (oN Br) Bs (fun fs hr => retN X4 hx (t := .boolean) Br (by simp) (hb hby d19_40) hr) ?_ (by decide) (by decide)
  unfold Q19a27
  exact ⟨rfl, N4, e4⟩
def Q19a28 (Z : State)  (h0 : Heap) (n0 : Nat) (v : Option Value) (h : Heap) (L : List Loc) : Prop := v = some (.int (0 : Int32)) ∧ Fr n0 L ∧ h = h0
set_option maxRecDepth 65536 in
set_option maxHeartbeats 40000000 in
theorem rm19a28 (l : Launch) (Z : State) (a0 : Array Value) (hw : HW a0 Z) (ws : List Jvm.Cond) (b2 : Addr) (zd : Int64) (b3m : Addr) (k3n : ClassId) (b3o : Addr) (b3q : Addr) (k3r : ClassId) (h0 : Heap) (n0 : Nat) (Z0 : n0 ≤ h0.size) (PF6 : oF6 Z h0 b2 (.ref b3m)) (PV21 : Arv Z h0 b3m k3n (.array .long) (2 : Int32) [(.ref b3o), (.ref b3q)] .null) (PV25 : Arv Z h0 b3q k3r .long (1 : Int32) [(.long (4294967295 : Int64))] (.long (0 : Int64))) (PP0 : ¬ ((zd &&& (4294967295 : Int64)) = (0 : Int64))) :
    own_Met l mn20 prog_28_method_7_code 9 (some .boolean) ws (oRm 0 0 0 0) #[(.ref b2), (.int (1 : Int32)), (.long zd)] Z h0 (Q19a28 Z  h0 n0) := by
  refine own_met (own := "com/example/libakin/libakin/simhash/Layout") rfl (plainFor_of_name pn_0) ?_
  intro p e s m below meth c s₁ hx hby hml hZ hown hnm X0 e0 Br Bs
  have N0 := Fr.nil n0
  have tt := own_tt hx hby own_ok19
  show own_Ends p e below s _ _ _ s₁ (mkF m 0 #[oR b2, oI 1, .val (.long zd), oS, oU, oU, oU, oU, oU] [])
  refine own_mrun3 (a0 := a0) (as := [b2, b3m, b3o, b3q]) (kc := [0, k3n, 0, k3r]) (fl := [fE19_43 0 (vR 1)]) (cl := []) (wl := []) (ks := [1, 3]) (na := 4) (ls := [oR 0, oI 1, .val (.long zd), oS, oU, oU, oU, oU, oU]) (st := []) (me := [(1, (.array .long), 2, [vR 2, vR 3]), (3, .long, 1, [.long 4294967295])]) (pc' := 27) (ls' := [oR 0, oI 1, .val (.long zd), oS, oR 3, oI 1, oI 0, oU, oU]) (st' := [vI 0, vR 3]) (ups := []) tt hZ hown X0 N0 e0 (oA (ow121 hw) trivial) trivial (oA PF6 trivial) (oA PV21 (oA PV25 trivial)) (Or.inl rfl) trivial rfl rfl (by decide +kernel) 15 rfl fun T4 h4 _ X4 N4 e4 K4 q4 M4 => ?_
  have e4 := e4.trans (q4 rfl)
  show own_Ends p e below s _ _ _ T4 (mkF m 27 #[oR b2, oI 1, .val (.long zd), oS, oR b3q, oI 1, oI 0, oU, oU] [vI 0, vR b3q])
  refine own_go (T' := T4) (f' := (mkF m 36 #[oR b2, oI 1, .val (.long zd), oS, oR b3q, oI 1, oI 0, .val (.long (4294967295 : Int64)), oS] [(.int (lcmpW (zd &&& (4294967295 : Int64)) (0 : Int64)))])) (fun _ k => own_ldJ X4 hx hZ e4 PV25 (j := (0 : Int32)) (x := (4294967295 : Int64)) ⟨by decide, by decide⟩ rfl rfl rfl (hb hby d19_27) (own_e X4 tt 28 6 k rfl)) ?_
  refine own_go (T' := T4) (f' := (mkF m 48 #[oR b2, oI 1, .val (.long zd), oS, oR b3q, oI 1, oI 1, .val (.long (4294967295 : Int64)), oS] [vI 0])) (fun _ k => XS.ifYes X4.here hx rfl (pc0 := 36) (pc' := 41) rfl (hb hby d19_36) rfl ((if0 _ _).trans (feq ((not_congr (own_lc_eq (a := (zd &&& (4294967295 : Int64))) (b := (0 : Int64)))).mpr PP0)).2) (by decide) (by decide) (own_e X4 tt 41 6 k rfl)) ?_
  refine own_ret X4 (v := some (.int (0 : Int32))) (oN Br) Bs (fun fs hr => retN X4 hx (t := .boolean) Br (by simp) (hb hby d19_48) hr) ?_ (by decide) (by decide)
  unfold Q19a28
  exact ⟨rfl, N4, e4⟩
def Q6a32 (Z : State) (b3 : Addr) (k4 : ClassId) (h0 : Heap) (n0 : Nat) (v : Option Value) (h : Heap) (L : List Loc) : Prop := ∃ (b5a : Addr) (k5b : ClassId) (b6 : Addr), v = none ∧ Fr n0 L ∧ Keep h0 h [b3] ∧ n0 ≤ b5a ∧ h0.size ≤ b5a ∧ n0 ≤ b6 ∧ h0.size ≤ b6 ∧ b6 ≠ b5a ∧ oF0 Z h b3 (.int (1 : Int32)) ∧ oF1 Z h b3 (.ref b5a) ∧ oF2 Z h b3 (.int (1 : Int32)) ∧ Arv Z h b5a k5b (.object "java/lang/Object") (10 : Int32) [(.ref b6), .null, .null, .null, .null, .null, .null, .null, .null, .null] .null ∧ Ovr Z k5b "java/lang/Object" ∧ Arv Z h b6 k4 .int (2 : Int32) [(.int (0 : Int32)), (.int (1 : Int32))] (.int (0 : Int32)) ∧ Exa Z h b6 "[I"
set_option maxRecDepth 65536 in
set_option maxHeartbeats 40000000 in
theorem rm6a32 (l : Launch) (Z : State) (a0 : Array Value) (hw : HW a0 Z) (ws : List Jvm.Cond) (b5 : Addr) (b6 : Addr) (wd : Addr) (kd : ClassId) (k5 : ClassId) (h0 : Heap) (n0 : Nat) (Z0 : n0 ≤ h0.size) (PS0 : Sta Z h0 "java/util/ArrayList" "DEFAULTCAPACITY_EMPTY_ELEMENTDATA" "[Ljava/lang/Object;" (.ref wd)) (PV1 : Arv Z h0 wd kd (.object "java/lang/Object") (0 : Int32) [] .null) (PE9 : Exa Z h0 b6 "java/util/ArrayList") (PF10 : oF0 Z h0 b6 (.int (0 : Int32))) (PF11 : oF1 Z h0 b6 (.ref wd)) (PF12 : oF2 Z h0 b6 (.int (0 : Int32))) (PV13 : Arv Z h0 b5 k5 .int (2 : Int32) [(.int (0 : Int32)), (.int (1 : Int32))] (.int (0 : Int32))) (PE14 : Exa Z h0 b5 "[I") (ne_wd_b6 : wd ≠ b6) (n_b6 : n0 ≤ b6) :
    own_Met l mn9 prog_28_method_10_code 7 none ws (oRm 5 2 12 69) #[(.int (3 : Int32)), (.int (2 : Int32)), (.int (2 : Int32)), (.ref b5), (.int (2 : Int32)), (.ref b6)] Z h0 (Q6a32 Z b6 k5 h0 n0) := by
  refine own_met (own := "com/example/libakin/libakin/simhash/Layout") rfl (plainFor_of_name pn_0) ?_
  intro p e s m below meth c s₁ hx hby hml hZ hown hnm X0 e0 Br Bs
  have N0 := Fr.nil n0
  have tt := own_tt hx hby own_ok6
  show own_Ends p e below s _ _ _ s₁ (mkF m 0 #[oI 3, oI 2, oI 2, oR b5, oI 2, oR b6, oU] [])
  refine own_go (T' := s₁) (f' := (mkF m 9 #[oI 3, oI 2, oI 2, oR b5, oI 2, oR b6, oU] [vR b5, vR b6])) (fun _ k => own_e X0 tt 0 5 k rfl) ?_
  obtain ⟨T7, h7, X7, e7, E7, A7, EA7, st7⟩ := cloneH X0 hx hZ hown (ow37 hw) (ow38 hw) (ow42 hw) (ow40 hw) (ow41 hw) (ow43 hw) e0 (hs := []) PV13 PE14 (g := (mkF m 9 #[oI 3, oI 2, oI 2, oR b5, oI 2, oR b6, oU] [vR b5, vR b6])) rfl (by rw [hml]; rfl) rfl (hb hby d6_9) (by decide) (W := 1) (cap := 2) (by show 2 * 0 + _ ≤ _; exact Nat.le_of_eq rfl) (by decide) (by decide) (by decide) (by decide)
  obtain ⟨b7, g_b7⟩ : ∃ z, z = h0.size := ⟨_, rfl⟩
  have sg_b7 : h0.size ≤ b7 := Nat.le_of_eq g_b7.symm
  rw [← g_b7] at A7 EA7 st7
  have n_b7 := oT Z0 sg_b7
  have sz_b7 := oT (Keep.refl h0 [b6]).1 sg_b7
  have K7 : Keep h0 h7 [b6] := (Keep.refl h0 [b6]).ext E7
  have V_b7 : Arv Z h7 b7 k5 .int (2 : Int32) [(.int (0 : Int32)), (.int (1 : Int32))] (.int (0 : Int32)) := A7
  refine own_go (T' := T7) (f' := (mkF m 12 #[oI 3, oI 2, oI 2, oR b5, oI 2, oR b6, oU] [vR b7, vR b6])) (fun _ k => st7 _ k) ?_
  obtain ⟨T8, X8, e8, st8⟩ := castY X7 hx hZ hown (ow44 hw) e7 (Ins.self EA7) (g := (mkF m 12 #[oI 3, oI 2, oI 2, oR b5, oI 2, oR b6, oU] [vR b7, vR b6])) rfl rfl (hb hby d6_12)
  refine own_go (T' := T8) (f' := (mkF m 15 #[oI 3, oI 2, oI 2, oR b5, oI 2, oR b6, oU] [vR b7, vR b6])) (fun _ k => st8 _ k) ?_
  obtain ⟨cq15, kq15, q15a, q15b, q15c⟩ := isOf hZ e8 (PE9.ext E7)
  obtain ⟨_, T15, Lc15, X15, hQ15, st15⟩ := own_out (X8.interfaceBack hx (xi := mn8) (y := mn7) hown (mvT hZ (ow46 hw)) (mvT hZ (ow47 hw)) (mvT hZ (ow48 hw)) (mvT hZ (ow49 hw)) (mvT hZ (ow50 hw)) (mvT hZ (ow51 hw)) (mvT hZ (ow52 hw)) (mvT hZ (ow53 hw)) (by decide) (backOf (W := 0) (rm7a7 l Z a0 hw [] b6 b7 wd kd h7 n0 (oT Z0 E7.1) (PS0.ext E7) (PV1.ext E7) (PE9.ext E7) (PF10.ext E7) (PF11.ext E7) (PF12.ext E7) EA7 ne_wd_b6 n_b6) hZ (ow54 hw) (ow12 hw) (by decide) (by decide)) q15a q15b q15c (g := (mkF m 15 #[oI 3, oI 2, oI 2, oR b5, oI 2, oR b6, oU] [vR b7, vR b6])) rfl (by rw [hml]; rfl) (Steps.refl _) (argsL := [(.ref b7)]) (rest := []) (lenOf pd13 rfl) rfl (by show 2 * 0 + _ ≤ _; exact Nat.le_of_eq rfl) (hb hby d6_15) (fun _ _ => ⟨rfl, e8, (by decide : 1 + 1 ≤ _), (by decide : 2 + 10 ≤ _)⟩))
  obtain ⟨b15a, k15b, rfl, N15q, K15, n_b15a, sg_b15a, g15_0, g15_1, g15_2, g15_3, g15_4⟩ := hQ15
  have N15 := Fr.app N0 N15q
  have sz_b15a := oT K7.1 sg_b15a
  have u16 : b7 < h7.size := V_b7.lt
  have m17 : h0.size ≤ h7.size := (oT (Nat.le_refl _) E7.1)
  have eK15 : T15.heap = T15.heap := rfl
  have KK15 : Keep h0 T15.heap [b6] := Keep.trans K7 K15 (allS (Or.inl (List.mem_of_getElem? (i := 0) rfl)) all0)
  obtain ⟨_, X15, N15⟩ := own_hide X15 N15
  refine own_go (T' := T15) (f' := (mkF m 66 #[oI 3, oI 2, oI 2, oR b5, oI 2, oR b6, oU] [])) (fun _ k => st15.trans (own_e X15 tt 20 2 k rfl)) ?_
  refine own_ret X15 (v := none) (fun _ => rfl) Bs (fun fs hr => X15.returnOut hx Br (hb hby d6_66) hr) ?_ (by decide) (by decide)
  unfold Q6a32
  rw [eK15]
  exact ⟨b15a, k15b, b7, rfl, N15, KK15, n_b15a, sz_b15a, n_b7, sz_b7, (oL u16 sg_b15a), g15_0, g15_1, g15_2, g15_3, g15_4, (V_b7.keep K15 (ninS (oM PE9.lt sz_b7) nin0)), (EA7.keep K15)⟩
def Q6a33 (Z : State) (b3 : Addr) (b4a : Addr) (k5 : ClassId) (k4b : ClassId) (b4c : Addr) (h0 : Heap) (n0 : Nat) (v : Option Value) (h : Heap) (L : List Loc) : Prop := ∃ (b6 : Addr), v = none ∧ Fr n0 L ∧ Keep h0 h [b4a, b3] ∧ n0 ≤ b6 ∧ h0.size ≤ b6 ∧ Arv Z h b4a k4b (.object "java/lang/Object") (10 : Int32) [(.ref b4c), (.ref b6), .null, .null, .null, .null, .null, .null, .null, .null] .null ∧ oF0 Z h b3 (.int (2 : Int32)) ∧ oF1 Z h b3 (.ref b4a) ∧ oF2 Z h b3 (.int (2 : Int32)) ∧ Arv Z h b6 k5 .int (2 : Int32) [(.int (0 : Int32)), (.int (2 : Int32))] (.int (0 : Int32)) ∧ Exa Z h b6 "[I"
set_option maxRecDepth 65536 in
set_option maxHeartbeats 40000000 in
theorem rm6a33 (l : Launch) (Z : State) (a0 : Array Value) (hw : HW a0 Z) (ws : List Jvm.Cond) (b4 : Addr) (b5 : Addr) (b6a : Addr) (k4 : ClassId) (k6b : ClassId) (b6c : Addr) (h0 : Heap) (n0 : Nat) (Z0 : n0 ≤ h0.size) (PE9 : Exa Z h0 b5 "java/util/ArrayList") (PF10 : oF0 Z h0 b5 (.int (1 : Int32))) (PF11 : oF1 Z h0 b5 (.ref b6a)) (PF12 : oF2 Z h0 b5 (.int (1 : Int32))) (PV13 : Arv Z h0 b4 k4 .int (2 : Int32) [(.int (0 : Int32)), (.int (2 : Int32))] (.int (0 : Int32))) (PE14 : Exa Z h0 b4 "[I") (PV15 : Arv Z h0 b6a k6b (.object "java/lang/Object") (10 : Int32) [(.ref b6c), .null, .null, .null, .null, .null, .null, .null, .null, .null] .null) (ov_b6a : Ovr Z k6b "java/lang/Object") (ne_b5_b6a : b5 ≠ b6a) (ne_b6a_b5 : b6a ≠ b5) (n_b5 : n0 ≤ b5) (n_b6a : n0 ≤ b6a) :
    own_Met l mn9 prog_28_method_10_code 7 none ws (oRm 2 1 2 28) #[(.int (3 : Int32)), (.int (2 : Int32)), (.int (3 : Int32)), (.ref b4), (.int (2 : Int32)), (.ref b5)] Z h0 (Q6a33 Z b5 b6a k4 k6b b6c h0 n0) := by
  refine own_met (own := "com/example/libakin/libakin/simhash/Layout") rfl (plainFor_of_name pn_0) ?_
  intro p e s m below meth c s₁ hx hby hml hZ hown hnm X0 e0 Br Bs
  have N0 := Fr.nil n0
  have tt := own_tt hx hby own_ok6
  show own_Ends p e below s _ _ _ s₁ (mkF m 0 #[oI 3, oI 2, oI 3, oR b4, oI 2, oR b5, oU] [])
  refine own_go (T' := s₁) (f' := (mkF m 9 #[oI 3, oI 2, oI 3, oR b4, oI 2, oR b5, oU] [vR b4, vR b5])) (fun _ k => own_e X0 tt 0 5 k rfl) ?_
  obtain ⟨T7, h7, X7, e7, E7, A7, EA7, st7⟩ := cloneH X0 hx hZ hown (ow37 hw) (ow38 hw) (ow42 hw) (ow40 hw) (ow41 hw) (ow43 hw) e0 (hs := []) PV13 PE14 (g := (mkF m 9 #[oI 3, oI 2, oI 3, oR b4, oI 2, oR b5, oU] [vR b4, vR b5])) rfl (by rw [hml]; rfl) rfl (hb hby d6_9) (by decide) (W := 1) (cap := 2) (by show 2 * 0 + _ ≤ _; exact Nat.le_of_eq rfl) (by decide) (by decide) (by decide) (by decide)
  obtain ⟨b7, g_b7⟩ : ∃ z, z = h0.size := ⟨_, rfl⟩
  have sg_b7 : h0.size ≤ b7 := Nat.le_of_eq g_b7.symm
  rw [← g_b7] at A7 EA7 st7
  have n_b7 := oT Z0 sg_b7
  have sz_b7 := oT (Keep.refl h0 [b6a, b5]).1 sg_b7
  have K7 : Keep h0 h7 [b6a, b5] := (Keep.refl h0 [b6a, b5]).ext E7
  have V_b7 : Arv Z h7 b7 k4 .int (2 : Int32) [(.int (0 : Int32)), (.int (2 : Int32))] (.int (0 : Int32)) := A7
  refine own_go (T' := T7) (f' := (mkF m 12 #[oI 3, oI 2, oI 3, oR b4, oI 2, oR b5, oU] [vR b7, vR b5])) (fun _ k => st7 _ k) ?_
  obtain ⟨T8, X8, e8, st8⟩ := castY X7 hx hZ hown (ow44 hw) e7 (Ins.self EA7) (g := (mkF m 12 #[oI 3, oI 2, oI 3, oR b4, oI 2, oR b5, oU] [vR b7, vR b5])) rfl rfl (hb hby d6_12)
  refine own_go (T' := T8) (f' := (mkF m 15 #[oI 3, oI 2, oI 3, oR b4, oI 2, oR b5, oU] [vR b7, vR b5])) (fun _ k => st8 _ k) ?_
  obtain ⟨cq16, kq16, q16a, q16b, q16c⟩ := isOf hZ e8 (PE9.ext E7)
  obtain ⟨_, T16, Lc16, X16, hQ16, st16⟩ := own_out (X8.interfaceBack hx (xi := mn8) (y := mn7) hown (mvT hZ (ow46 hw)) (mvT hZ (ow47 hw)) (mvT hZ (ow48 hw)) (mvT hZ (ow49 hw)) (mvT hZ (ow50 hw)) (mvT hZ (ow51 hw)) (mvT hZ (ow52 hw)) (mvT hZ (ow53 hw)) (by decide) (backOf (W := 0) (rm7a13 l Z a0 hw [] b5 b7 b6a k6b b6c h7 n0 (oT Z0 E7.1) (PE9.ext E7) (PF10.ext E7) (PF11.ext E7) (PF12.ext E7) (PV15.ext E7) EA7 ov_b6a ne_b5_b6a ne_b6a_b5 n_b5 n_b6a) hZ (ow54 hw) (ow12 hw) (by decide) (by decide)) q16a q16b q16c (g := (mkF m 15 #[oI 3, oI 2, oI 3, oR b4, oI 2, oR b5, oU] [vR b7, vR b5])) rfl (by rw [hml]; rfl) (Steps.refl _) (argsL := [(.ref b7)]) (rest := []) (lenOf pd13 rfl) rfl (by show 2 * 0 + _ ≤ _; exact Nat.le_of_eq rfl) (hb hby d6_15) (fun _ _ => ⟨rfl, e8, (by decide : 1 + 0 ≤ _), (by decide : 2 + 0 ≤ _)⟩))
  obtain ⟨rfl, N16q, K16, g16_0, g16_1, g16_2, g16_3⟩ := hQ16
  have N16 := Fr.app N0 N16q
  have eK16 : T16.heap = T16.heap := rfl
  have KK16 : Keep h0 T16.heap [b6a, b5] := Keep.trans K7 K16 (allS (Or.inl (List.mem_of_getElem? (i := 1) rfl)) (allS (Or.inl (List.mem_of_getElem? (i := 0) rfl)) all0))
  obtain ⟨_, X16, N16⟩ := own_hide X16 N16
  refine own_go (T' := T16) (f' := (mkF m 66 #[oI 3, oI 2, oI 3, oR b4, oI 2, oR b5, oU] [])) (fun _ k => st16.trans (own_e X16 tt 20 2 k rfl)) ?_
  refine own_ret X16 (v := none) (fun _ => rfl) Bs (fun fs hr => X16.returnOut hx Br (hb hby d6_66) hr) ?_ (by decide) (by decide)
  unfold Q6a33
  rw [eK16]
  exact ⟨b7, rfl, N16, KK16, n_b7, sz_b7, g16_3, g16_0, g16_1, g16_2, (V_b7.keep K16 (ninS (oM PE9.lt sz_b7) (ninS (oM PV15.lt sz_b7) nin0))), (EA7.keep K16)⟩
def Q6a31 (Z : State) (b3 : Addr) (b4 : Addr) (k3 : ClassId) (h0 : Heap) (n0 : Nat) (v : Option Value) (h : Heap) (L : List Loc) : Prop := ∃ (b5a : Addr) (k5b : ClassId) (b5c : Addr) (b6a : Addr), v = none ∧ Fr n0 L ∧ Keep h0 h [b3, b4] ∧ n0 ≤ b5a ∧ h0.size ≤ b5a ∧ n0 ≤ b5c ∧ h0.size ≤ b5c ∧ n0 ≤ b6a ∧ h0.size ≤ b6a ∧ b5c ≠ b5a ∧ b6a ≠ b5a ∧ b6a ≠ b5c ∧ Arv Z h b3 k3 .int (2 : Int32) [(.int (0 : Int32)), (.int (2 : Int32))] (.int (0 : Int32)) ∧ oF0 Z h b4 (.int (2 : Int32)) ∧ oF1 Z h b4 (.ref b5a) ∧ oF2 Z h b4 (.int (2 : Int32)) ∧ Arv Z h b5a k5b (.object "java/lang/Object") (10 : Int32) [(.ref b5c), (.ref b6a), .null, .null, .null, .null, .null, .null, .null, .null] .null ∧ Ovr Z k5b "java/lang/Object" ∧ Arv Z h b5c k3 .int (2 : Int32) [(.int (0 : Int32)), (.int (1 : Int32))] (.int (0 : Int32)) ∧ Exa Z h b5c "[I" ∧ Arv Z h b6a k3 .int (2 : Int32) [(.int (0 : Int32)), (.int (2 : Int32))] (.int (0 : Int32)) ∧ Exa Z h b6a "[I"
set_option maxRecDepth 65536 in
set_option maxHeartbeats 40000000 in
theorem rm6a31 (l : Launch) (Z : State) (a0 : Array Value) (hw : HW a0 Z) (ws : List Jvm.Cond) (b7 : Addr) (b8 : Addr) (wd : Addr) (kd : ClassId) (k7 : ClassId) (h0 : Heap) (n0 : Nat) (Z0 : n0 ≤ h0.size) (PS0 : Sta Z h0 "java/util/ArrayList" "DEFAULTCAPACITY_EMPTY_ELEMENTDATA" "[Ljava/lang/Object;" (.ref wd)) (PV1 : Arv Z h0 wd kd (.object "java/lang/Object") (0 : Int32) [] .null) (PE9 : Exa Z h0 b8 "java/util/ArrayList") (PF10 : oF0 Z h0 b8 (.int (0 : Int32))) (PF11 : oF1 Z h0 b8 (.ref wd)) (PF12 : oF2 Z h0 b8 (.int (0 : Int32))) (PV13 : Arv Z h0 b7 k7 .int (2 : Int32) [(.int (0 : Int32)), (.int (0 : Int32))] (.int (0 : Int32))) (PE14 : Exa Z h0 b7 "[I") (ne_wd_b8 : wd ≠ b8) (ne_wd_b7 : wd ≠ b7) (ne_b8_b7 : b8 ≠ b7) (ne_b7_b8 : b7 ≠ b8) (n_b7 : n0 ≤ b7) (n_b8 : n0 ≤ b8) :
    own_Met l mn9 prog_28_method_10_code 7 none ws (oRm 6 3 14 87) #[(.int (3 : Int32)), (.int (2 : Int32)), (.int (1 : Int32)), (.ref b7), (.int (1 : Int32)), (.ref b8)] Z h0 (Q6a31 Z b7 b8 k7 h0 n0) := by
  refine own_met (own := "com/example/libakin/libakin/simhash/Layout") rfl (plainFor_of_name pn_0) ?_
  intro p e s m below meth c s₁ hx hby hml hZ hown hnm X0 e0 Br Bs
  have N0 := Fr.nil n0
  have tt := own_tt hx hby own_ok6
  show own_Ends p e below s _ _ _ s₁ (mkF m 0 #[oI 3, oI 2, oI 1, oR b7, oI 1, oR b8, oU] [])
  refine own_go (T' := s₁) (f' := (mkF m 43 #[oI 3, oI 2, oI 1, oR b7, oI 1, oR b8, oI 1] [vI 1, vI 1, vR b7])) (fun _ k => own_e X0 tt 0 15 k rfl) ?_
  obtain ⟨T15, h15, X15, e15, W15, V15, st15⟩ := own_stI X0 hx hZ e0 PV13 (j := (1 : Int32)) ⟨by decide, by decide⟩ 1 rfl (Nat.le_of_ble_eq_true rfl) (g := (mkF m 43 #[oI 3, oI 2, oI 1, oR b7, oI 1, oR b8, oI 1] [vI 1, vI 1, vR b7])) rfl rfl (hb hby d6_43)
  have K15 : Keep h0 h15 [b7, b8] := (Keep.refl h0 [b7, b8]).wr W15 (Or.inl (List.mem_of_getElem? (i := 0) rfl))
  have V15s : Arv Z h15 b7 k7 .int (2 : Int32) [(.int (0 : Int32)), (.int (1 : Int32))] (.int (0 : Int32)) := V15
  have N15 := Fr.snoc X15 N0 n_b7
  refine own_go (T' := T15) (f' := (mkF m 57 #[oI 3, oI 2, oI 1, oR b7, oI 1, oR b8, oI 1] [vR b8, vI 2, vR b7, vI 2, vI 2, vI 3])) (fun _ k => st15 _ (own_e X15 tt 44 10 k rfl)) ?_
  obtain ⟨_, T16, Lc16, X16, hQ16, st16⟩ := own_outC (Jvm.LawKit.callS X15 hx (y := mn9) hown (mvT hZ (ow34 hw)) (mvT hZ (ow35 hw)) (mvT hZ (ow2 hw)) (mvT hZ (ow36 hw)) (by decide) (backOf (W := 0) (rm6a32 l Z a0 hw [] b7 b8 wd kd k7 h15 n0 (oT Z0 (Keep.of_wr W15).1) (PS0.wr W15) (PV1.other W15 ne_wd_b7) (PE9.wr W15) (PF10.other W15 (Or.inl ne_b8_b7)) (PF11.other W15 (Or.inl ne_b8_b7)) (PF12.other W15 (Or.inl ne_b8_b7)) V15s (PE14.wr W15) ne_wd_b8 n_b8) hZ (ow36 hw) (ow2 hw) (by decide) (by decide)) (g := (mkF m 57 #[oI 3, oI 2, oI 1, oR b7, oI 1, oR b8, oI 1] [vR b8, vI 2, vR b7, vI 2, vI 2, vI 3])) rfl (by rw [hml]; rfl) (argsL := [(.int (3 : Int32)), (.int (2 : Int32)), (.int (2 : Int32)), (.ref b7), (.int (2 : Int32)), (.ref b8)]) (rest := []) (lenOf pd9 rfl) rfl (by show 2 * 0 + _ ≤ _; exact Nat.le_of_eq rfl) (hb hby d6_57) (fun _ _ => ⟨rfl, e15, (by decide : 0 + 2 ≤ _), (by decide : 0 + 12 ≤ _)⟩))
  obtain ⟨b16a, k16b, b16c, rfl, N16q, K16, n_b16a, sg_b16a, n_b16c, sg_b16c, ne16_0, g16_0, g16_1, g16_2, g16_3, g16_4, g16_5, g16_6⟩ := hQ16
  have N16 := Fr.app N15 N16q
  have sz_b16a := oT K15.1 sg_b16a
  have sz_b16c := oT K15.1 sg_b16c
  have eK16 : T16.heap = T16.heap := rfl
  have KK16 : Keep h0 T16.heap [b7, b8] := Keep.trans K15 K16 (allS (Or.inl (List.mem_of_getElem? (i := 1) rfl)) all0)
  obtain ⟨_, X16, N16⟩ := own_hide X16 N16
  refine own_go (T' := T16) (f' := (mkF m 43 #[oI 3, oI 2, oI 1, oR b7, oI 1, oR b8, oI 2] [vI 2, vI 1, vR b7])) (fun _ k => st16 _ (own_e X16 tt 60 12 k rfl)) ?_
  obtain ⟨T17, h17, X17, e17, W17, V17, st17⟩ := own_stI X16 hx hZ eK16 (V15s.keep K16 (ninS ne_b7_b8 nin0)) (j := (1 : Int32)) ⟨by decide, by decide⟩ 1 rfl (Nat.le_of_ble_eq_true rfl) (g := (mkF m 43 #[oI 3, oI 2, oI 1, oR b7, oI 1, oR b8, oI 2] [vI 2, vI 1, vR b7])) rfl rfl (hb hby d6_43)
  have K17 : Keep h0 h17 [b7, b8] := KK16.wr W17 (Or.inl (List.mem_of_getElem? (i := 0) rfl))
  have V17s : Arv Z h17 b7 k7 .int (2 : Int32) [(.int (0 : Int32)), (.int (2 : Int32))] (.int (0 : Int32)) := V17
  have N17 := Fr.snoc X17 N16 n_b7
  refine own_go (T' := T17) (f' := (mkF m 57 #[oI 3, oI 2, oI 1, oR b7, oI 1, oR b8, oI 2] [vR b8, vI 2, vR b7, vI 3, vI 2, vI 3])) (fun _ k => st17 _ (own_e X17 tt 44 10 k rfl)) ?_
  obtain ⟨_, T18, Lc18, X18, hQ18, st18⟩ := own_outC (Jvm.LawKit.callS X17 hx (y := mn9) hown (mvT hZ (ow34 hw)) (mvT hZ (ow35 hw)) (mvT hZ (ow2 hw)) (mvT hZ (ow36 hw)) (by decide) (backOf (W := 0) (rm6a33 l Z a0 hw [] b7 b8 b16a k7 k16b b16c h17 n0 (oT (oT (oT Z0 (Keep.of_wr W15).1) K16.1) (Keep.of_wr W17).1) (((PE9.wr W15).keep K16).wr W17) (g16_0.other W17 (Or.inl ne_b8_b7)) (g16_1.other W17 (Or.inl ne_b8_b7)) (g16_2.other W17 (Or.inl ne_b8_b7)) V17s (((PE14.wr W15).keep K16).wr W17) (g16_3.other W17 (oM PV13.lt sz_b16a)) g16_4 (oL PE9.lt sz_b16a) (oM PE9.lt sz_b16a) n_b8 n_b16a) hZ (ow36 hw) (ow2 hw) (by decide) (by decide)) (g := (mkF m 57 #[oI 3, oI 2, oI 1, oR b7, oI 1, oR b8, oI 2] [vR b8, vI 2, vR b7, vI 3, vI 2, vI 3])) rfl (by rw [hml]; rfl) (argsL := [(.int (3 : Int32)), (.int (2 : Int32)), (.int (3 : Int32)), (.ref b7), (.int (2 : Int32)), (.ref b8)]) (rest := []) (lenOf pd9 rfl) rfl (by show 2 * 0 + _ ≤ _; exact Nat.le_of_eq rfl) (hb hby d6_57) (fun _ _ => ⟨rfl, e17, (by decide : 2 + 1 ≤ _), (by decide : 12 + 2 ≤ _)⟩))
  obtain ⟨b18a, rfl, N18q, K18, n_b18a, sg_b18a, g18_0, g18_1, g18_2, g18_3, g18_4, g18_5⟩ := hQ18
  have N18 := Fr.app N17 N18q
  have sz_b18a := oT K17.1 sg_b18a
  have u19 := (oW g16_3.lt (Keep.of_wr W17).1)
  have u20 := (oW g16_5.lt (Keep.of_wr W17).1)
  have m21 : h15.size ≤ h17.size := (oT (oT (Nat.le_refl _) K16.1) (Keep.of_wr W17).1)
  have eK18 : T18.heap = T18.heap := rfl
  have KK18 : Keep h0 T18.heap [b7, b8] := Keep.trans K17 K18 (allS (Or.inr sz_b16a) (allS (Or.inl (List.mem_of_getElem? (i := 1) rfl)) all0))
  obtain ⟨_, X18, N18⟩ := own_hide X18 N18
  refine own_go (T' := T18) (f' := (mkF m 66 #[oI 3, oI 2, oI 1, oR b7, oI 1, oR b8, oI 3] [])) (fun _ k => st18 _ (own_e X18 tt 60 9 k rfl)) ?_
  refine own_ret X18 (v := none) (fun _ => rfl) Bs (fun fs hr => X18.returnOut hx Br (hb hby d6_66) hr) ?_ (by decide) (by decide)
  unfold Q6a31
  rw [eK18]
  exact ⟨b16a, k16b, b16c, b18a, rfl, N18, KK18, n_b16a, sz_b16a, n_b16c, sz_b16c, n_b18a, sz_b18a, ne16_0, (oM u19 sg_b18a), (oM u20 sg_b18a), (V17s.keep K18 (ninS (oL PV13.lt sz_b16a) (ninS ne_b7_b8 nin0))), g18_1, g18_2, g18_3, g18_0, g16_4, ((g16_5.other W17 (oM PV13.lt sz_b16c)).keep K18 (ninS ne16_0 (ninS (oM PE9.lt sz_b16c) nin0))), ((g16_6.wr W17).keep K18), g18_4, g18_5⟩
def Q8a37 (Z : State) (b3 : Addr) (b4 : Addr) (b5a : Addr) (k5b : ClassId) (b5c : Addr) (b5d : Addr) (h0 : Heap) (n0 : Nat) (v : Option Value) (h : Heap) (L : List Loc) : Prop := v = none ∧ Fr n0 L ∧ Keep h0 h [b5a, b3] ∧ Arv Z h b5a k5b (.object "java/lang/Object") (10 : Int32) [(.ref b5c), (.ref b5d), (.ref b4), .null, .null, .null, .null, .null, .null, .null] .null ∧ oF0 Z h b3 (.int (3 : Int32)) ∧ oF1 Z h b3 (.ref b5a) ∧ oF2 Z h b3 (.int (3 : Int32))
set_option maxRecDepth 65536 in
set_option maxHeartbeats 40000000 in
theorem rm8a37 (l : Launch) (Z : State) (a0 : Array Value) (hw : HW a0 Z) (ws : List Jvm.Cond) (b3 : Addr) (b4 : Addr) (b5a : Addr) (k5b : ClassId) (b5c : Addr) (b5d : Addr) (h0 : Heap) (n0 : Nat) (Z0 : n0 ≤ h0.size) (PE9 : Exa Z h0 b3 "java/util/ArrayList") (PF10 : oF0 Z h0 b3 (.int (3 : Int32))) (PF11 : oF1 Z h0 b3 (.ref b5a)) (PF12 : oF2 Z h0 b3 (.int (2 : Int32))) (PV15 : Arv Z h0 b5a k5b (.object "java/lang/Object") (10 : Int32) [(.ref b5c), (.ref b5d), .null, .null, .null, .null, .null, .null, .null, .null] .null) (PE21 : Exa Z h0 b4 "[I") (ov_b5a : Ovr Z k5b "java/lang/Object") (ne_b3_b5a : b3 ≠ b5a) (ne_b5a_b3 : b5a ≠ b3) (n_b3 : n0 ≤ b3) (n_b5a : n0 ≤ b5a) :
    own_Met l mn6 jdk_38_method_24_code 4 none ws (oRm 0 0 0 0) #[(.ref b3), (.ref b4), (.ref b5a), (.int (2 : Int32))] Z h0 (Q8a37 Z b3 b4 b5a k5b b5c b5d h0 n0) := by
  refine own_met (own := "java/util/ArrayList") rfl (plainFor_of_name pn_6) ?_
  intro p e s m below meth c s₁ hx hby hml hZ hown hnm X0 e0 Br Bs
  have N0 := Fr.nil n0
  have tt := own_tt hx hby own_ok8
  show own_Ends p e below s _ _ _ s₁ (mkF m 0 #[oR b3, oR b4, oR b5a, oI 2] [])
  refine own_mrun2 (a0 := a0) (as := [b3, b5a, b5c, b5d, b4]) (kc := [0, k5b, 0, 0, 0]) (fl := []) (cl := []) (wl := []) (ks := [1]) (na := 5) (ls := [oR 0, oR 4, oR 1, oI 2]) (st := []) (me := [(1, (.object "java/lang/Object"), 10, [vR 2, vR 3, .null, .null, .null, .null, .null, .null, .null, .null])]) (pc' := 14) (ls' := [oR 0, oR 4, oR 1, oI 2]) (st' := [vR 4, vI 2, vR 1]) (ups := []) tt hZ hown X0 N0 e0 trivial trivial trivial (oA PV15 trivial) (Or.inl rfl) trivial rfl rfl (by decide +kernel) 7 (by decide +kernel) fun T6 h6 _ X6 N6 e6 K6 q6 M6 => ?_
  have e6 := e6.trans (q6 rfl)
  show own_Ends p e below s _ _ _ T6 (mkF m 14 #[oR b3, oR b4, oR b5a, oI 2] [vR b4, vI 2, vR b5a])
  obtain ⟨T7, h7, X7, e7, W7, V7, st7⟩ := own_stR X6 hx hZ e6 PV15 (j := (2 : Int32)) ⟨by decide, by decide⟩ rfl rfl (fun cl Ar q => Sto.ofV Ar q ov_b5a (Ins.of_exa PE21 (ow80 hw))) 2 rfl (Nat.le_of_ble_eq_true rfl) (g := (mkF m 14 #[oR b3, oR b4, oR b5a, oI 2] [vR b4, vI 2, vR b5a])) rfl rfl (hb hby d8_14)
  have K7 : Keep h0 h7 [b5a, b3] := (Keep.refl h0 [b5a, b3]).wr W7 (Or.inl (List.mem_of_getElem? (i := 0) rfl))
  have V7s : Arv Z h7 b5a k5b (.object "java/lang/Object") (10 : Int32) [(.ref b5c), (.ref b5d), (.ref b4), .null, .null, .null, .null, .null, .null, .null] .null := V7
  have N7 := Fr.snoc X7 N6 n_b5a
  refine own_go (T' := T7) (f' := (mkF m 19 #[oR b3, oR b4, oR b5a, oI 2] [vI 3, vR b3])) (fun _ k => st7 _ (own_e X7 tt 15 4 k rfl)) ?_
  obtain ⟨T8, h8, X8, e8, W8, st8⟩ := putF X7 hx hZ hown (host := "") (Or.inl (ow57 hw)) Via.refl e7 (PF12.other W7 (Or.inl ne_b3_b5a)) (PE9.wr W7) (Or.inl (ow58 hw)) (ow11 hw) (ty := .int) (by decide) rfl rfl (g := (mkF m 19 #[oR b3, oR b4, oR b5a, oI 2] [vI 3, vR b3])) rfl rfl (hb hby d8_19)
  have Fw8 := Fld.same W8 (PF12.other W7 (Or.inl ne_b3_b5a))
  have K8 : Keep h0 h8 [b5a, b3] := K7.wr W8 (Or.inl (List.mem_of_getElem? (i := 1) rfl))
  have N8 := Fr.snoc X8 N7 n_b3
  refine own_go (T' := T8) (f' := (mkF m 22 #[oR b3, oR b4, oR b5a, oI 2] [])) (fun _ k => st8 _ k) ?_
  refine own_ret X8 (v := none) (fun _ => rfl) Bs (fun fs hr => X8.returnOut hx Br (hb hby d8_22) hr) ?_ (by decide) (by decide)
  unfold Q8a37
  rw [e8]
  exact ⟨rfl, N8, K8, (V7s.other W8 ne_b5a_b3), ((PF10.other W7 (Or.inl ne_b3_b5a)).other W8 (Or.inr (sn_30_58 hw))), ((PF11.other W7 (Or.inl ne_b3_b5a)).other W8 (Or.inr (sn_33_58 hw))), Fw8⟩
def Q7a36 (Z : State) (b3 : Addr) (b4 : Addr) (b5a : Addr) (k5b : ClassId) (b5c : Addr) (b5d : Addr) (h0 : Heap) (n0 : Nat) (v : Option Value) (h : Heap) (L : List Loc) : Prop := v = some (.int (1 : Int32)) ∧ Fr n0 L ∧ Keep h0 h [b3, b5a] ∧ oF0 Z h b3 (.int (3 : Int32)) ∧ oF1 Z h b3 (.ref b5a) ∧ oF2 Z h b3 (.int (3 : Int32)) ∧ Arv Z h b5a k5b (.object "java/lang/Object") (10 : Int32) [(.ref b5c), (.ref b5d), (.ref b4), .null, .null, .null, .null, .null, .null, .null] .null
set_option maxRecDepth 65536 in
set_option maxHeartbeats 40000000 in
theorem rm7a36 (l : Launch) (Z : State) (a0 : Array Value) (hw : HW a0 Z) (ws : List Jvm.Cond) (b4 : Addr) (b5 : Addr) (b6a : Addr) (k6b : ClassId) (b6c : Addr) (b6d : Addr) (h0 : Heap) (n0 : Nat) (Z0 : n0 ≤ h0.size) (PE9 : Exa Z h0 b4 "java/util/ArrayList") (PF10 : oF0 Z h0 b4 (.int (2 : Int32))) (PF11 : oF1 Z h0 b4 (.ref b6a)) (PF12 : oF2 Z h0 b4 (.int (2 : Int32))) (PV15 : Arv Z h0 b6a k6b (.object "java/lang/Object") (10 : Int32) [(.ref b6c), (.ref b6d), .null, .null, .null, .null, .null, .null, .null, .null] .null) (PE21 : Exa Z h0 b5 "[I") (ov_b6a : Ovr Z k6b "java/lang/Object") (ne_b4_b6a : b4 ≠ b6a) (ne_b6a_b4 : b6a ≠ b4) (n_b4 : n0 ≤ b4) (n_b6a : n0 ≤ b6a) :
    own_Met l mn7 jdk_38_method_25_code 2 (some .boolean) ws (oRm 1 0 0 15) #[(.ref b4), (.ref b5)] Z h0 (Q7a36 Z b4 b5 b6a k6b b6c b6d h0 n0) := by
  refine own_met (own := "java/util/ArrayList") rfl (plainFor_of_name pn_6) ?_
  intro p e s m below meth c s₁ hx hby hml hZ hown hnm X0 e0 Br Bs
  have N0 := Fr.nil n0
  have tt := own_tt hx hby own_ok7
  show own_Ends p e below s _ _ _ s₁ (mkF m 0 #[oR b4, oR b5] [])
  refine own_go (T' := s₁) (f' := (mkF m 2 #[oR b4, oR b5] [vR b4, vR b4])) (fun _ k => own_e X0 tt 0 2 k rfl) ?_
  obtain ⟨T7, X7, e7, st7⟩ := getF X0 hx hZ hown (host := "") (Or.inl (ow55 hw)) (Via.of (ow56 hw)) e0 PF10 (g := (mkF m 2 #[oR b4, oR b5] [vR b4, vR b4])) rfl rfl (hb hby d7_2)
  refine own_go (T' := T7) (f' := (mkF m 7 #[oR b4, oR b5] [vI 3, vR b4])) (fun _ k => st7 _ (own_e X7 tt 5 2 k rfl)) ?_
  obtain ⟨T8, h8, X8, e8, W8, st8⟩ := putF X7 hx hZ hown (host := "") (Or.inl (ow55 hw)) (Via.of (ow56 hw)) e7 PF10 PE9 (Or.inl (ow30 hw)) (ow11 hw) (ty := .int) (by decide) rfl rfl (g := (mkF m 7 #[oR b4, oR b5] [vI 3, vR b4])) rfl rfl (hb hby d7_7)
  have Fw8 := Fld.same W8 PF10
  have K8 : Keep h0 h8 [b4, b6a] := (Keep.refl h0 [b4, b6a]).wr W8 (Or.inl (List.mem_of_getElem? (i := 0) rfl))
  have N8 := Fr.snoc X8 N0 n_b4
  refine own_go (T' := T8) (f' := (mkF m 10 #[oR b4, oR b5] [])) (fun _ k => st8 _ k) ?_
  refine own_mrun2 (a0 := a0) (as := [b4, b6a, b5]) (kc := [0, 0, 0]) (fl := [fE7_9 0 (vR 1), fE7_48 0 (vI 2)]) (cl := []) (wl := []) (ks := []) (na := 3) (ls := [oR 0, oR 2]) (st := []) (me := []) (pc' := 20) (ls' := [oR 0, oR 2]) (st' := [vI 2, vR 1, vR 2, vR 0]) (ups := []) tt hZ hown X8 N8 e8 (oA (ow32 hw) (oA (ow57 hw) trivial)) trivial (oA (PF11.other W8 (Or.inr (sn_33_30 hw))) (oA (PF12.other W8 (Or.inr (sn_58_30 hw))) trivial)) trivial (Or.inl rfl) trivial rfl rfl (by decide +kernel) 6 (by decide +kernel) fun T13 h13 _ X13 N13 e13 K13 q13 M13 => ?_
  have e13 := e13.trans (q13 rfl)
  show own_Ends p e below s _ _ _ T13 (mkF m 20 #[oR b4, oR b5] [vI 2, vR b6a, vR b5, vR b4])
  obtain ⟨cq14, q14, q14'⟩ := (PE9.wr W8).cell
  obtain ⟨_, T14, Lc14, X14, hQ14, st14⟩ := own_out (X13.privateBack hx (y := mn6) hown (mvT hZ (ow59 hw)) (mvT hZ (ow60 hw)) (mvT hZ (ow62 hw)) (Cond.privateMethod_at (mvP hZ (ow61 hw) (args := #[]))) (mvT hZ (ow63 hw)) (by decide) (backOf (W := 0) (rm8a37 l Z a0 hw [] b4 b5 b6a k6b b6c b6d h8 n0 (oT Z0 (Keep.of_wr W8).1) (PE9.wr W8) Fw8 (PF11.other W8 (Or.inr (sn_33_30 hw))) (PF12.other W8 (Or.inr (sn_58_30 hw))) (PV15.other W8 ne_b6a_b4) (PE21.wr W8) ov_b6a ne_b4_b6a ne_b6a_b4 n_b4 n_b6a) hZ (ow63 hw) (ow12 hw) (by decide) (by decide)) (g := (mkF m 20 #[oR b4, oR b5] [vI 2, vR b6a, vR b5, vR b4])) rfl (by rw [hml]; rfl) (Steps.refl _) (a := b4) (by rw [e13]; exact q14) q14' (argsL := [(.ref b5), (.ref b6a), (.int (2 : Int32))]) (rest := []) (lenOf pd14 rfl) rfl (by show 2 * 0 + _ ≤ _; exact Nat.le_of_eq rfl) (hb hby d7_20) (fun _ _ => ⟨rfl, e13, (by decide : 0 + 0 ≤ _), (by decide : 0 + 0 ≤ _)⟩))
  obtain ⟨rfl, N14q, K14, g14_0, g14_1, g14_2, g14_3⟩ := hQ14
  have N14 := Fr.app N13 N14q
  have eK14 : T14.heap = T14.heap := rfl
  have KK14 : Keep h0 T14.heap [b4, b6a] := Keep.trans K8 K14 (allS (Or.inl (List.mem_of_getElem? (i := 1) rfl)) (allS (Or.inl (List.mem_of_getElem? (i := 0) rfl)) all0))
  obtain ⟨_, X14, N14⟩ := own_hide X14 N14
  refine own_go (T' := T14) (f' := (mkF m 24 #[oR b4, oR b5] [vI 1])) (fun _ k => st14.trans (own_e X14 tt 23 1 k rfl)) ?_
  refine own_ret X14 (v := some (.int (1 : Int32))) (oN Br) Bs (fun fs hr => retN X14 hx (t := .boolean) Br (by simp) (hb hby d7_24) hr) ?_ (by decide) (by decide)
  unfold Q7a36
  rw [eK14]
  exact ⟨rfl, N14, KK14, g14_1, g14_2, g14_3, g14_0⟩
def Q6a35 (Z : State) (b3 : Addr) (b4a : Addr) (k5 : ClassId) (k4b : ClassId) (b4c : Addr) (b4d : Addr) (h0 : Heap) (n0 : Nat) (v : Option Value) (h : Heap) (L : List Loc) : Prop := ∃ (b6 : Addr), v = none ∧ Fr n0 L ∧ Keep h0 h [b4a, b3] ∧ n0 ≤ b6 ∧ h0.size ≤ b6 ∧ Arv Z h b4a k4b (.object "java/lang/Object") (10 : Int32) [(.ref b4c), (.ref b4d), (.ref b6), .null, .null, .null, .null, .null, .null, .null] .null ∧ oF0 Z h b3 (.int (3 : Int32)) ∧ oF1 Z h b3 (.ref b4a) ∧ oF2 Z h b3 (.int (3 : Int32)) ∧ Arv Z h b6 k5 .int (2 : Int32) [(.int (1 : Int32)), (.int (2 : Int32))] (.int (0 : Int32)) ∧ Exa Z h b6 "[I"
set_option maxRecDepth 65536 in
set_option maxHeartbeats 40000000 in
theorem rm6a35 (l : Launch) (Z : State) (a0 : Array Value) (hw : HW a0 Z) (ws : List Jvm.Cond) (b4 : Addr) (b5 : Addr) (b6a : Addr) (k4 : ClassId) (k6b : ClassId) (b6c : Addr) (b6d : Addr) (h0 : Heap) (n0 : Nat) (Z0 : n0 ≤ h0.size) (PE9 : Exa Z h0 b5 "java/util/ArrayList") (PF10 : oF0 Z h0 b5 (.int (2 : Int32))) (PF11 : oF1 Z h0 b5 (.ref b6a)) (PF12 : oF2 Z h0 b5 (.int (2 : Int32))) (PV13 : Arv Z h0 b4 k4 .int (2 : Int32) [(.int (1 : Int32)), (.int (2 : Int32))] (.int (0 : Int32))) (PE14 : Exa Z h0 b4 "[I") (PV15 : Arv Z h0 b6a k6b (.object "java/lang/Object") (10 : Int32) [(.ref b6c), (.ref b6d), .null, .null, .null, .null, .null, .null, .null, .null] .null) (ov_b6a : Ovr Z k6b "java/lang/Object") (ne_b5_b6a : b5 ≠ b6a) (ne_b6a_b5 : b6a ≠ b5) (n_b5 : n0 ≤ b5) (n_b6a : n0 ≤ b6a) :
    own_Met l mn9 prog_28_method_10_code 7 none ws (oRm 2 1 2 28) #[(.int (3 : Int32)), (.int (2 : Int32)), (.int (3 : Int32)), (.ref b4), (.int (2 : Int32)), (.ref b5)] Z h0 (Q6a35 Z b5 b6a k4 k6b b6c b6d h0 n0) := by
  refine own_met (own := "com/example/libakin/libakin/simhash/Layout") rfl (plainFor_of_name pn_0) ?_
  intro p e s m below meth c s₁ hx hby hml hZ hown hnm X0 e0 Br Bs
  have N0 := Fr.nil n0
  have tt := own_tt hx hby own_ok6
  show own_Ends p e below s _ _ _ s₁ (mkF m 0 #[oI 3, oI 2, oI 3, oR b4, oI 2, oR b5, oU] [])
  refine own_go (T' := s₁) (f' := (mkF m 9 #[oI 3, oI 2, oI 3, oR b4, oI 2, oR b5, oU] [vR b4, vR b5])) (fun _ k => own_e X0 tt 0 5 k rfl) ?_
  obtain ⟨T7, h7, X7, e7, E7, A7, EA7, st7⟩ := cloneH X0 hx hZ hown (ow37 hw) (ow38 hw) (ow42 hw) (ow40 hw) (ow41 hw) (ow43 hw) e0 (hs := []) PV13 PE14 (g := (mkF m 9 #[oI 3, oI 2, oI 3, oR b4, oI 2, oR b5, oU] [vR b4, vR b5])) rfl (by rw [hml]; rfl) rfl (hb hby d6_9) (by decide) (W := 1) (cap := 2) (by show 2 * 0 + _ ≤ _; exact Nat.le_of_eq rfl) (by decide) (by decide) (by decide) (by decide)
  obtain ⟨b7, g_b7⟩ : ∃ z, z = h0.size := ⟨_, rfl⟩
  have sg_b7 : h0.size ≤ b7 := Nat.le_of_eq g_b7.symm
  rw [← g_b7] at A7 EA7 st7
  have n_b7 := oT Z0 sg_b7
  have sz_b7 := oT (Keep.refl h0 [b6a, b5]).1 sg_b7
  have K7 : Keep h0 h7 [b6a, b5] := (Keep.refl h0 [b6a, b5]).ext E7
  have V_b7 : Arv Z h7 b7 k4 .int (2 : Int32) [(.int (1 : Int32)), (.int (2 : Int32))] (.int (0 : Int32)) := A7
  refine own_go (T' := T7) (f' := (mkF m 12 #[oI 3, oI 2, oI 3, oR b4, oI 2, oR b5, oU] [vR b7, vR b5])) (fun _ k => st7 _ k) ?_
  obtain ⟨T8, X8, e8, st8⟩ := castY X7 hx hZ hown (ow44 hw) e7 (Ins.self EA7) (g := (mkF m 12 #[oI 3, oI 2, oI 3, oR b4, oI 2, oR b5, oU] [vR b7, vR b5])) rfl rfl (hb hby d6_12)
  refine own_go (T' := T8) (f' := (mkF m 15 #[oI 3, oI 2, oI 3, oR b4, oI 2, oR b5, oU] [vR b7, vR b5])) (fun _ k => st8 _ k) ?_
  obtain ⟨cq16, kq16, q16a, q16b, q16c⟩ := isOf hZ e8 (PE9.ext E7)
  obtain ⟨_, T16, Lc16, X16, hQ16, st16⟩ := own_out (X8.interfaceBack hx (xi := mn8) (y := mn7) hown (mvT hZ (ow46 hw)) (mvT hZ (ow47 hw)) (mvT hZ (ow48 hw)) (mvT hZ (ow49 hw)) (mvT hZ (ow50 hw)) (mvT hZ (ow51 hw)) (mvT hZ (ow52 hw)) (mvT hZ (ow53 hw)) (by decide) (backOf (W := 0) (rm7a36 l Z a0 hw [] b5 b7 b6a k6b b6c b6d h7 n0 (oT Z0 E7.1) (PE9.ext E7) (PF10.ext E7) (PF11.ext E7) (PF12.ext E7) (PV15.ext E7) EA7 ov_b6a ne_b5_b6a ne_b6a_b5 n_b5 n_b6a) hZ (ow54 hw) (ow12 hw) (by decide) (by decide)) q16a q16b q16c (g := (mkF m 15 #[oI 3, oI 2, oI 3, oR b4, oI 2, oR b5, oU] [vR b7, vR b5])) rfl (by rw [hml]; rfl) (Steps.refl _) (argsL := [(.ref b7)]) (rest := []) (lenOf pd13 rfl) rfl (by show 2 * 0 + _ ≤ _; exact Nat.le_of_eq rfl) (hb hby d6_15) (fun _ _ => ⟨rfl, e8, (by decide : 1 + 0 ≤ _), (by decide : 2 + 0 ≤ _)⟩))
  obtain ⟨rfl, N16q, K16, g16_0, g16_1, g16_2, g16_3⟩ := hQ16
  have N16 := Fr.app N0 N16q
  have eK16 : T16.heap = T16.heap := rfl
  have KK16 : Keep h0 T16.heap [b6a, b5] := Keep.trans K7 K16 (allS (Or.inl (List.mem_of_getElem? (i := 1) rfl)) (allS (Or.inl (List.mem_of_getElem? (i := 0) rfl)) all0))
  obtain ⟨_, X16, N16⟩ := own_hide X16 N16
  refine own_go (T' := T16) (f' := (mkF m 66 #[oI 3, oI 2, oI 3, oR b4, oI 2, oR b5, oU] [])) (fun _ k => st16.trans (own_e X16 tt 20 2 k rfl)) ?_
  refine own_ret X16 (v := none) (fun _ => rfl) Bs (fun fs hr => X16.returnOut hx Br (hb hby d6_66) hr) ?_ (by decide) (by decide)
  unfold Q6a35
  rw [eK16]
  exact ⟨b7, rfl, N16, KK16, n_b7, sz_b7, g16_3, g16_0, g16_1, g16_2, (V_b7.keep K16 (ninS (oM PE9.lt sz_b7) (ninS (oM PV15.lt sz_b7) nin0))), (EA7.keep K16)⟩
def Q6a34 (Z : State) (b3 : Addr) (b4 : Addr) (b5a : Addr) (k3 : ClassId) (k5b : ClassId) (b5c : Addr) (b5d : Addr) (h0 : Heap) (n0 : Nat) (v : Option Value) (h : Heap) (L : List Loc) : Prop := ∃ (b6a : Addr), v = none ∧ Fr n0 L ∧ Keep h0 h [b3, b4, b5a] ∧ n0 ≤ b6a ∧ h0.size ≤ b6a ∧ Arv Z h b3 k3 .int (2 : Int32) [(.int (1 : Int32)), (.int (2 : Int32))] (.int (0 : Int32)) ∧ oF0 Z h b4 (.int (3 : Int32)) ∧ oF1 Z h b4 (.ref b5a) ∧ oF2 Z h b4 (.int (3 : Int32)) ∧ Arv Z h b5a k5b (.object "java/lang/Object") (10 : Int32) [(.ref b5c), (.ref b5d), (.ref b6a), .null, .null, .null, .null, .null, .null, .null] .null ∧ Arv Z h b6a k3 .int (2 : Int32) [(.int (1 : Int32)), (.int (2 : Int32))] (.int (0 : Int32)) ∧ Exa Z h b6a "[I"
set_option maxRecDepth 65536 in
set_option maxHeartbeats 40000000 in
theorem rm6a34 (l : Launch) (Z : State) (a0 : Array Value) (hw : HW a0 Z) (ws : List Jvm.Cond) (b6 : Addr) (b7 : Addr) (b8a : Addr) (k6 : ClassId) (k8b : ClassId) (b8c : Addr) (b8d : Addr) (h0 : Heap) (n0 : Nat) (Z0 : n0 ≤ h0.size) (PE9 : Exa Z h0 b7 "java/util/ArrayList") (PF10 : oF0 Z h0 b7 (.int (2 : Int32))) (PF11 : oF1 Z h0 b7 (.ref b8a)) (PF12 : oF2 Z h0 b7 (.int (2 : Int32))) (PV13 : Arv Z h0 b6 k6 .int (2 : Int32) [(.int (1 : Int32)), (.int (2 : Int32))] (.int (0 : Int32))) (PE14 : Exa Z h0 b6 "[I") (PV15 : Arv Z h0 b8a k8b (.object "java/lang/Object") (10 : Int32) [(.ref b8c), (.ref b8d), .null, .null, .null, .null, .null, .null, .null, .null] .null) (ov_b8a : Ovr Z k8b "java/lang/Object") (ne_b7_b8a : b7 ≠ b8a) (ne_b8a_b7 : b8a ≠ b7) (ne_b7_b6 : b7 ≠ b6) (ne_b8a_b6 : b8a ≠ b6) (ne_b6_b7 : b6 ≠ b7) (ne_b6_b8a : b6 ≠ b8a) (n_b6 : n0 ≤ b6) (n_b7 : n0 ≤ b7) (n_b8a : n0 ≤ b8a) :
    own_Met l mn9 prog_28_method_10_code 7 none ws (oRm 3 1 2 46) #[(.int (3 : Int32)), (.int (2 : Int32)), (.int (2 : Int32)), (.ref b6), (.int (1 : Int32)), (.ref b7)] Z h0 (Q6a34 Z b6 b7 b8a k6 k8b b8c b8d h0 n0) := by
  refine own_met (own := "com/example/libakin/libakin/simhash/Layout") rfl (plainFor_of_name pn_0) ?_
  intro p e s m below meth c s₁ hx hby hml hZ hown hnm X0 e0 Br Bs
  have N0 := Fr.nil n0
  have tt := own_tt hx hby own_ok6
  show own_Ends p e below s _ _ _ s₁ (mkF m 0 #[oI 3, oI 2, oI 2, oR b6, oI 1, oR b7, oU] [])
  refine own_go (T' := s₁) (f' := (mkF m 43 #[oI 3, oI 2, oI 2, oR b6, oI 1, oR b7, oI 2] [vI 2, vI 1, vR b6])) (fun _ k => own_e X0 tt 0 15 k rfl) ?_
  obtain ⟨T16, h16, X16, e16, W16, V16, st16⟩ := own_stI X0 hx hZ e0 PV13 (j := (1 : Int32)) ⟨by decide, by decide⟩ 1 rfl (Nat.le_of_ble_eq_true rfl) (g := (mkF m 43 #[oI 3, oI 2, oI 2, oR b6, oI 1, oR b7, oI 2] [vI 2, vI 1, vR b6])) rfl rfl (hb hby d6_43)
  have K16 : Keep h0 h16 [b6, b7, b8a] := (Keep.refl h0 [b6, b7, b8a]).wr W16 (Or.inl (List.mem_of_getElem? (i := 0) rfl))
  have V16s : Arv Z h16 b6 k6 .int (2 : Int32) [(.int (1 : Int32)), (.int (2 : Int32))] (.int (0 : Int32)) := V16
  have N16 := Fr.snoc X16 N0 n_b6
  refine own_go (T' := T16) (f' := (mkF m 57 #[oI 3, oI 2, oI 2, oR b6, oI 1, oR b7, oI 2] [vR b7, vI 2, vR b6, vI 3, vI 2, vI 3])) (fun _ k => st16 _ (own_e X16 tt 44 10 k rfl)) ?_
  obtain ⟨_, T17, Lc17, X17, hQ17, st17⟩ := own_outC (Jvm.LawKit.callS X16 hx (y := mn9) hown (mvT hZ (ow34 hw)) (mvT hZ (ow35 hw)) (mvT hZ (ow2 hw)) (mvT hZ (ow36 hw)) (by decide) (backOf (W := 0) (rm6a35 l Z a0 hw [] b6 b7 b8a k6 k8b b8c b8d h16 n0 (oT Z0 (Keep.of_wr W16).1) (PE9.wr W16) (PF10.other W16 (Or.inl ne_b7_b6)) (PF11.other W16 (Or.inl ne_b7_b6)) (PF12.other W16 (Or.inl ne_b7_b6)) V16s (PE14.wr W16) (PV15.other W16 ne_b8a_b6) ov_b8a ne_b7_b8a ne_b8a_b7 n_b7 n_b8a) hZ (ow36 hw) (ow2 hw) (by decide) (by decide)) (g := (mkF m 57 #[oI 3, oI 2, oI 2, oR b6, oI 1, oR b7, oI 2] [vR b7, vI 2, vR b6, vI 3, vI 2, vI 3])) rfl (by rw [hml]; rfl) (argsL := [(.int (3 : Int32)), (.int (2 : Int32)), (.int (3 : Int32)), (.ref b6), (.int (2 : Int32)), (.ref b7)]) (rest := []) (lenOf pd9 rfl) rfl (by show 2 * 0 + _ ≤ _; exact Nat.le_of_eq rfl) (hb hby d6_57) (fun _ _ => ⟨rfl, e16, (by decide : 0 + 1 ≤ _), (by decide : 0 + 2 ≤ _)⟩))
  obtain ⟨b17a, rfl, N17q, K17, n_b17a, sg_b17a, g17_0, g17_1, g17_2, g17_3, g17_4, g17_5⟩ := hQ17
  have N17 := Fr.app N16 N17q
  have sz_b17a := oT K16.1 sg_b17a
  have eK17 : T17.heap = T17.heap := rfl
  have KK17 : Keep h0 T17.heap [b6, b7, b8a] := Keep.trans K16 K17 (allS (Or.inl (List.mem_of_getElem? (i := 2) rfl)) (allS (Or.inl (List.mem_of_getElem? (i := 1) rfl)) all0))
  obtain ⟨_, X17, N17⟩ := own_hide X17 N17
  refine own_go (T' := T17) (f' := (mkF m 66 #[oI 3, oI 2, oI 2, oR b6, oI 1, oR b7, oI 3] [])) (fun _ k => st17 _ (own_e X17 tt 60 9 k rfl)) ?_
  refine own_ret X17 (v := none) (fun _ => rfl) Bs (fun fs hr => X17.returnOut hx Br (hb hby d6_66) hr) ?_ (by decide) (by decide)
  unfold Q6a34
  rw [eK17]
  exact ⟨b17a, rfl, N17, KK17, n_b17a, sz_b17a, (V16s.keep K17 (ninS ne_b6_b8a (ninS ne_b6_b7 nin0))), g17_1, g17_2, g17_3, g17_0, g17_4, g17_5⟩
def Q6a30 (Z : State) (b3 : Addr) (b4 : Addr) (k3 : ClassId) (h0 : Heap) (n0 : Nat) (v : Option Value) (h : Heap) (L : List Loc) : Prop := ∃ (b5a : Addr) (k5b : ClassId) (b5c : Addr) (b5d : Addr) (b6a : Addr), v = none ∧ Fr n0 L ∧ Keep h0 h [b3, b4] ∧ n0 ≤ b5a ∧ h0.size ≤ b5a ∧ n0 ≤ b5c ∧ h0.size ≤ b5c ∧ n0 ≤ b5d ∧ h0.size ≤ b5d ∧ n0 ≤ b6a ∧ h0.size ≤ b6a ∧ b5c ≠ b5a ∧ b5d ≠ b5a ∧ b5d ≠ b5c ∧ b6a ≠ b5a ∧ b6a ≠ b5c ∧ b6a ≠ b5d ∧ Arv Z h b3 k3 .int (2 : Int32) [(.int (1 : Int32)), (.int (2 : Int32))] (.int (0 : Int32)) ∧ oF0 Z h b4 (.int (3 : Int32)) ∧ oF1 Z h b4 (.ref b5a) ∧ oF2 Z h b4 (.int (3 : Int32)) ∧ Arv Z h b5a k5b (.object "java/lang/Object") (10 : Int32) [(.ref b5c), (.ref b5d), (.ref b6a), .null, .null, .null, .null, .null, .null, .null] .null ∧ Ovr Z k5b "java/lang/Object" ∧ Arv Z h b5c k3 .int (2 : Int32) [(.int (0 : Int32)), (.int (1 : Int32))] (.int (0 : Int32)) ∧ Exa Z h b5c "[I" ∧ Arv Z h b5d k3 .int (2 : Int32) [(.int (0 : Int32)), (.int (2 : Int32))] (.int (0 : Int32)) ∧ Exa Z h b5d "[I" ∧ Arv Z h b6a k3 .int (2 : Int32) [(.int (1 : Int32)), (.int (2 : Int32))] (.int (0 : Int32)) ∧ Exa Z h b6a "[I"
set_option maxRecDepth 65536 in
set_option maxHeartbeats 40000000 in
theorem rm6a30 (l : Launch) (Z : State) (a0 : Array Value) (hw : HW a0 Z) (ws : List Jvm.Cond) (b15 : Addr) (b16 : Addr) (wd : Addr) (kd : ClassId) (k15 : ClassId) (h0 : Heap) (n0 : Nat) (Z0 : n0 ≤ h0.size) (PS0 : Sta Z h0 "java/util/ArrayList" "DEFAULTCAPACITY_EMPTY_ELEMENTDATA" "[Ljava/lang/Object;" (.ref wd)) (PV1 : Arv Z h0 wd kd (.object "java/lang/Object") (0 : Int32) [] .null) (PE9 : Exa Z h0 b16 "java/util/ArrayList") (PF10 : oF0 Z h0 b16 (.int (0 : Int32))) (PF11 : oF1 Z h0 b16 (.ref wd)) (PF12 : oF2 Z h0 b16 (.int (0 : Int32))) (PV13 : Arv Z h0 b15 k15 .int (2 : Int32) [(.int (0 : Int32)), (.int (0 : Int32))] (.int (0 : Int32))) (PE14 : Exa Z h0 b15 "[I") (ne_wd_b16 : wd ≠ b16) (ne_wd_b15 : wd ≠ b15) (ne_b16_b15 : b16 ≠ b15) (ne_b15_b16 : b15 ≠ b16) (n_b15 : n0 ≤ b15) (n_b16 : n0 ≤ b16) :
    own_Met l mn9 prog_28_method_10_code 7 none ws (oRm 7 4 16 105) #[(.int (3 : Int32)), (.int (2 : Int32)), (.int (0 : Int32)), (.ref b15), (.int (0 : Int32)), (.ref b16)] Z h0 (Q6a30 Z b15 b16 k15 h0 n0) := by
  refine own_met (own := "com/example/libakin/libakin/simhash/Layout") rfl (plainFor_of_name pn_0) ?_
  intro p e s m below meth c s₁ hx hby hml hZ hown hnm X0 e0 Br Bs
  have N0 := Fr.nil n0
  have tt := own_tt hx hby own_ok6
  show own_Ends p e below s _ _ _ s₁ (mkF m 0 #[oI 3, oI 2, oI 0, oR b15, oI 0, oR b16, oU] [])
  refine own_go (T' := s₁) (f' := (mkF m 43 #[oI 3, oI 2, oI 0, oR b15, oI 0, oR b16, oI 0] [vI 0, vI 0, vR b15])) (fun _ k => own_e X0 tt 0 15 k rfl) ?_
  obtain ⟨T17, h17, X17, e17, W17, V17, st17⟩ := own_stI X0 hx hZ e0 PV13 (j := (0 : Int32)) ⟨by decide, by decide⟩ 0 rfl (Nat.le_of_ble_eq_true rfl) (g := (mkF m 43 #[oI 3, oI 2, oI 0, oR b15, oI 0, oR b16, oI 0] [vI 0, vI 0, vR b15])) rfl rfl (hb hby d6_43)
  have K17 : Keep h0 h17 [b15, b16] := (Keep.refl h0 [b15, b16]).wr W17 (Or.inl (List.mem_of_getElem? (i := 0) rfl))
  have V17s : Arv Z h17 b15 k15 .int (2 : Int32) [(.int (0 : Int32)), (.int (0 : Int32))] (.int (0 : Int32)) := V17
  have N17 := Fr.snoc X17 N0 n_b15
  refine own_go (T' := T17) (f' := (mkF m 57 #[oI 3, oI 2, oI 0, oR b15, oI 0, oR b16, oI 0] [vR b16, vI 1, vR b15, vI 1, vI 2, vI 3])) (fun _ k => st17 _ (own_e X17 tt 44 10 k rfl)) ?_
  obtain ⟨_, T18, Lc18, X18, hQ18, st18⟩ := own_outC (Jvm.LawKit.callS X17 hx (y := mn9) hown (mvT hZ (ow34 hw)) (mvT hZ (ow35 hw)) (mvT hZ (ow2 hw)) (mvT hZ (ow36 hw)) (by decide) (backOf (W := 0) (rm6a31 l Z a0 hw [] b15 b16 wd kd k15 h17 n0 (oT Z0 (Keep.of_wr W17).1) (PS0.wr W17) (PV1.other W17 ne_wd_b15) (PE9.wr W17) (PF10.other W17 (Or.inl ne_b16_b15)) (PF11.other W17 (Or.inl ne_b16_b15)) (PF12.other W17 (Or.inl ne_b16_b15)) V17s (PE14.wr W17) ne_wd_b16 ne_wd_b15 ne_b16_b15 ne_b15_b16 n_b15 n_b16) hZ (ow36 hw) (ow2 hw) (by decide) (by decide)) (g := (mkF m 57 #[oI 3, oI 2, oI 0, oR b15, oI 0, oR b16, oI 0] [vR b16, vI 1, vR b15, vI 1, vI 2, vI 3])) rfl (by rw [hml]; rfl) (argsL := [(.int (3 : Int32)), (.int (2 : Int32)), (.int (1 : Int32)), (.ref b15), (.int (1 : Int32)), (.ref b16)]) (rest := []) (lenOf pd9 rfl) rfl (by show 2 * 0 + _ ≤ _; exact Nat.le_of_eq rfl) (hb hby d6_57) (fun _ _ => ⟨rfl, e17, (by decide : 0 + 3 ≤ _), (by decide : 0 + 14 ≤ _)⟩))
  obtain ⟨b18a, k18b, b18c, b18d, rfl, N18q, K18, n_b18a, sg_b18a, n_b18c, sg_b18c, n_b18d, sg_b18d, ne18_0, ne18_1, ne18_2, g18_0, g18_1, g18_2, g18_3, g18_4, g18_5, g18_6, g18_7, g18_8, g18_9⟩ := hQ18
  have N18 := Fr.app N17 N18q
  have sz_b18a := oT K17.1 sg_b18a
  have sz_b18c := oT K17.1 sg_b18c
  have sz_b18d := oT K17.1 sg_b18d
  have eK18 : T18.heap = T18.heap := rfl
  have KK18 : Keep h0 T18.heap [b15, b16] := Keep.trans K17 K18 (allS (Or.inl (List.mem_of_getElem? (i := 0) rfl)) (allS (Or.inl (List.mem_of_getElem? (i := 1) rfl)) all0))
  obtain ⟨_, X18, N18⟩ := own_hide X18 N18
  refine own_go (T' := T18) (f' := (mkF m 43 #[oI 3, oI 2, oI 0, oR b15, oI 0, oR b16, oI 1] [vI 1, vI 0, vR b15])) (fun _ k => st18 _ (own_e X18 tt 60 12 k rfl)) ?_
  obtain ⟨T19, h19, X19, e19, W19, V19, st19⟩ := own_stI X18 hx hZ eK18 g18_0 (j := (0 : Int32)) ⟨by decide, by decide⟩ 0 rfl (Nat.le_of_ble_eq_true rfl) (g := (mkF m 43 #[oI 3, oI 2, oI 0, oR b15, oI 0, oR b16, oI 1] [vI 1, vI 0, vR b15])) rfl rfl (hb hby d6_43)
  have K19 : Keep h0 h19 [b15, b16] := KK18.wr W19 (Or.inl (List.mem_of_getElem? (i := 0) rfl))
  have V19s : Arv Z h19 b15 k15 .int (2 : Int32) [(.int (1 : Int32)), (.int (2 : Int32))] (.int (0 : Int32)) := V19
  have N19 := Fr.snoc X19 N18 n_b15
  refine own_go (T' := T19) (f' := (mkF m 57 #[oI 3, oI 2, oI 0, oR b15, oI 0, oR b16, oI 1] [vR b16, vI 1, vR b15, vI 2, vI 2, vI 3])) (fun _ k => st19 _ (own_e X19 tt 44 10 k rfl)) ?_
  obtain ⟨_, T20, Lc20, X20, hQ20, st20⟩ := own_outC (Jvm.LawKit.callS X19 hx (y := mn9) hown (mvT hZ (ow34 hw)) (mvT hZ (ow35 hw)) (mvT hZ (ow2 hw)) (mvT hZ (ow36 hw)) (by decide) (backOf (W := 0) (rm6a34 l Z a0 hw [] b15 b16 b18a k15 k18b b18c b18d h19 n0 (oT (oT (oT Z0 (Keep.of_wr W17).1) K18.1) (Keep.of_wr W19).1) (((PE9.wr W17).keep K18).wr W19) (g18_1.other W19 (Or.inl ne_b16_b15)) (g18_2.other W19 (Or.inl ne_b16_b15)) (g18_3.other W19 (Or.inl ne_b16_b15)) V19s (((PE14.wr W17).keep K18).wr W19) (g18_4.other W19 (oM PV13.lt sz_b18a)) g18_5 (oL PE9.lt sz_b18a) (oM PE9.lt sz_b18a) ne_b16_b15 (oM PV13.lt sz_b18a) ne_b15_b16 (oL PV13.lt sz_b18a) n_b15 n_b16 n_b18a) hZ (ow36 hw) (ow2 hw) (by decide) (by decide)) (g := (mkF m 57 #[oI 3, oI 2, oI 0, oR b15, oI 0, oR b16, oI 1] [vR b16, vI 1, vR b15, vI 2, vI 2, vI 3])) rfl (by rw [hml]; rfl) (argsL := [(.int (3 : Int32)), (.int (2 : Int32)), (.int (2 : Int32)), (.ref b15), (.int (1 : Int32)), (.ref b16)]) (rest := []) (lenOf pd9 rfl) rfl (by show 2 * 0 + _ ≤ _; exact Nat.le_of_eq rfl) (hb hby d6_57) (fun _ _ => ⟨rfl, e19, (by decide : 3 + 1 ≤ _), (by decide : 14 + 2 ≤ _)⟩))
  obtain ⟨b20a, rfl, N20q, K20, n_b20a, sg_b20a, g20_0, g20_1, g20_2, g20_3, g20_4, g20_5, g20_6⟩ := hQ20
  have N20 := Fr.app N19 N20q
  have sz_b20a := oT K19.1 sg_b20a
  have u21 := (oW g18_4.lt (Keep.of_wr W19).1)
  have u22 := (oW g18_6.lt (Keep.of_wr W19).1)
  have u23 := (oW g18_8.lt (Keep.of_wr W19).1)
  have m24 : h17.size ≤ h19.size := (oT (oT (Nat.le_refl _) K18.1) (Keep.of_wr W19).1)
  have eK20 : T20.heap = T20.heap := rfl
  have KK20 : Keep h0 T20.heap [b15, b16] := Keep.trans K19 K20 (allS (Or.inl (List.mem_of_getElem? (i := 0) rfl)) (allS (Or.inl (List.mem_of_getElem? (i := 1) rfl)) (allS (Or.inr sz_b18a) all0)))
  obtain ⟨_, X20, N20⟩ := own_hide X20 N20
  refine own_go (T' := T20) (f' := (mkF m 66 #[oI 3, oI 2, oI 0, oR b15, oI 0, oR b16, oI 2] [])) (fun _ k => st20 _ (own_e X20 tt 60 9 k rfl)) ?_
  refine own_ret X20 (v := none) (fun _ => rfl) Bs (fun fs hr => X20.returnOut hx Br (hb hby d6_66) hr) ?_ (by decide) (by decide)
  unfold Q6a30
  have G25 := ((g18_6.other W19 (oM PV13.lt sz_b18c)).keep K20 (ninS (oM PV13.lt sz_b18c) (ninS (oM PE9.lt sz_b18c) (ninS ne18_0 nin0))))
  have G26 := ((g18_8.other W19 (oM PV13.lt sz_b18d)).keep K20 (ninS (oM PV13.lt sz_b18d) (ninS (oM PE9.lt sz_b18d) (ninS ne18_1 nin0))))
  rw [eK20]
  exact ⟨b18a, k18b, b18c, b18d, b20a, rfl, N20, KK20, n_b18a, sz_b18a, n_b18c, sz_b18c, n_b18d, sz_b18d, n_b20a, sz_b20a, ne18_0, ne18_1, ne18_2, (oM u21 sg_b20a), (oM u22 sg_b20a), (oM u23 sg_b20a), g20_0, g20_1, g20_2, g20_3, g20_4, g18_5, G25, ((g18_7.wr W19).keep K20), G26, ((g18_9.wr W19).keep K20), g20_5, g20_6⟩
def Q12a38 (Z : State)  (h0 : Heap) (n0 : Nat) (v : Option Value) (h : Heap) (L : List Loc) : Prop := v = some (.int (3 : Int32)) ∧ Fr n0 L ∧ h = h0
set_option maxRecDepth 65536 in
set_option maxHeartbeats 40000000 in
theorem rm12a38 (l : Launch) (Z : State) (a0 : Array Value) (hw : HW a0 Z) (ws : List Jvm.Cond) (b3 : Addr) (h0 : Heap) (n0 : Nat) (Z0 : n0 ≤ h0.size) (PF12 : oF2 Z h0 b3 (.int (3 : Int32))) :
    own_Met l mn10 jdk_38_method_8_code 1 (some .int) ws (oRm 0 0 0 0) #[(.ref b3)] Z h0 (Q12a38 Z  h0 n0) := by
  refine own_met (own := "java/util/ArrayList") rfl (plainFor_of_name pn_6) ?_
  intro p e s m below meth c s₁ hx hby hml hZ hown hnm X0 e0 Br Bs
  have N0 := Fr.nil n0
  have tt := own_tt hx hby own_ok12
  show own_Ends p e below s _ _ _ s₁ (mkF m 0 #[oR b3] [])
  refine own_mrun2 (a0 := a0) (as := [b3]) (kc := [0]) (fl := [fE12_48 0 (vI 3)]) (cl := []) (wl := []) (ks := []) (na := 1) (ls := [oR 0]) (st := []) (me := []) (pc' := 4) (ls' := [oR 0]) (st' := [vI 3]) (ups := []) tt hZ hown X0 N0 e0 (oA (ow57 hw) trivial) trivial (oA PF12 trivial) trivial (Or.inl rfl) trivial rfl rfl (by decide +kernel) 2 (by decide +kernel) fun T4 h4 _ X4 N4 e4 K4 q4 M4 => ?_
  have e4 := e4.trans (q4 rfl)
  show own_Ends p e below s _ _ _ T4 (mkF m 4 #[oR b3] [vI 3])
  refine own_ret X4 (v := some (.int (3 : Int32))) (oN Br) Bs (fun fs hr => retI X4 hx Br (hb hby d12_4) hr) ?_ (by decide) (by decide)
  unfold Q12a38
  exact ⟨rfl, N4, e4⟩
def Q15a41 (Z : State)  (h0 : Heap) (n0 : Nat) (v : Option Value) (h : Heap) (L : List Loc) : Prop := v = some (.int (0 : Int32)) ∧ Fr n0 L ∧ h = h0
set_option maxRecDepth 65536 in
set_option maxHeartbeats 40000000 in
theorem rm15a41 (l : Launch) (Z : State) (a0 : Array Value) (hw : HW a0 Z) (ws : List Jvm.Cond)  (h0 : Heap) (n0 : Nat) (Z0 : n0 ≤ h0.size) :
    own_Met l mn12 jdk_41_method_11_code 3 (some .int) ws (oRm 0 0 0 0) #[(.int (0 : Int32)), (.int (3 : Int32)), .null] Z h0 (Q15a41 Z  h0 n0) := by
  refine own_met (own := "jdk/internal/util/Preconditions") rfl (plainFor_of_name pn_8) ?_
  intro p e s m below meth c s₁ hx hby hml hZ hown hnm X0 e0 Br Bs
  have N0 := Fr.nil n0
  have tt := own_tt hx hby own_ok15
  show own_Ends p e below s _ _ _ s₁ (mkF m 0 #[oI 0, oI 3, .val .null] [])
  refine own_go (T' := s₁) (f' := (mkF m 17 #[oI 0, oI 3, .val .null] [vI 0])) (fun _ k => own_e X0 tt 0 6 k rfl) ?_
  refine own_ret X0 (v := some (.int (0 : Int32))) (oN Br) Bs (fun fs hr => retI X0 hx Br (hb hby d15_17) hr) ?_ (by decide) (by decide)
  unfold Q15a41
  exact ⟨rfl, N0, e0⟩
def Q14a40 (Z : State)  (h0 : Heap) (n0 : Nat) (v : Option Value) (h : Heap) (L : List Loc) : Prop := v = some (.int (0 : Int32)) ∧ Fr n0 L ∧ h = h0
set_option maxRecDepth 65536 in
set_option maxHeartbeats 40000000 in
theorem rm14a40 (l : Launch) (Z : State) (a0 : Array Value) (hw : HW a0 Z) (ws : List Jvm.Cond)  (h0 : Heap) (n0 : Nat) (Z0 : n0 ≤ h0.size) :
    own_Met l mn13 jdk_31_method_17_code 2 (some .int) ws (oRm 1 0 0 14) #[(.int (0 : Int32)), (.int (3 : Int32))] Z h0 (Q14a40 Z  h0 n0) := by
  refine own_met (own := "java/util/Objects") rfl (plainFor_of_name pn_7) ?_
  intro p e s m below meth c s₁ hx hby hml hZ hown hnm X0 e0 Br Bs
  have N0 := Fr.nil n0
  have tt := own_tt hx hby own_ok14
  show own_Ends p e below s _ _ _ s₁ (mkF m 0 #[oI 0, oI 3] [])
  refine own_go (T' := s₁) (f' := (mkF m 3 #[oI 0, oI 3] [.null, vI 3, vI 0])) (fun _ k => own_e X0 tt 0 3 k rfl) ?_
  obtain ⟨_, T3, Lc3, X3, hQ3, st3⟩ := own_outC (Jvm.LawKit.callS X0 hx (y := mn12) hown (mvT hZ (ow110 hw)) (mvT hZ (ow111 hw)) (mvT hZ (ow112 hw)) (mvT hZ (ow113 hw)) (by decide) (backOf (W := 0) (rm15a41 l Z a0 hw []  h0 n0 Z0 ) hZ (ow113 hw) (ow112 hw) (by decide) (by decide)) (g := (mkF m 3 #[oI 0, oI 3] [.null, vI 3, vI 0])) rfl (by rw [hml]; rfl) (argsL := [(.int (0 : Int32)), (.int (3 : Int32)), .null]) (rest := []) (lenOf pd10 rfl) rfl (by show 2 * 0 + _ ≤ _; exact Nat.le_of_eq rfl) (hb hby d14_3) (fun _ _ => ⟨rfl, e0, (by decide : 0 + 0 ≤ _), (by decide : 0 + 0 ≤ _)⟩))
  obtain ⟨rfl, N3q, hh3⟩ := hQ3
  have N3 := Fr.app N0 N3q
  obtain ⟨_, X3, N3⟩ := own_hide X3 N3
  refine own_go (T' := T3) (f' := (mkF m 6 #[oI 0, oI 3] [vI 0])) (fun _ k => st3 _ k) ?_
  refine own_ret X3 (v := some (.int (0 : Int32))) (oN Br) Bs (fun fs hr => retI X3 hx Br (hb hby d14_6) hr) ?_ (by decide) (by decide)
  unfold Q14a40
  exact ⟨rfl, N3, hh3⟩
def Q16a42 (Z : State) (b3c : Addr) (h0 : Heap) (n0 : Nat) (v : Option Value) (h : Heap) (L : List Loc) : Prop := v = some (.ref b3c) ∧ Fr n0 L ∧ h = h0
set_option maxRecDepth 65536 in
set_option maxHeartbeats 40000000 in
theorem rm16a42 (l : Launch) (Z : State) (a0 : Array Value) (hw : HW a0 Z) (ws : List Jvm.Cond) (b3 : Addr) (b4a : Addr) (k4b : ClassId) (b4c : Addr) (b4d : Addr) (b4e : Addr) (h0 : Heap) (n0 : Nat) (Z0 : n0 ≤ h0.size) (PF11 : oF1 Z h0 b3 (.ref b4a)) (PV15 : Arv Z h0 b4a k4b (.object "java/lang/Object") (10 : Int32) [(.ref b4c), (.ref b4d), (.ref b4e), .null, .null, .null, .null, .null, .null, .null] .null) :
    own_Met l mn14 jdk_38_method_18_code 2 (some (.object "java/lang/Object")) ws (oRm 0 0 0 0) #[(.ref b3), (.int (0 : Int32))] Z h0 (Q16a42 Z b4c h0 n0) := by
  refine own_met (own := "java/util/ArrayList") rfl (plainFor_of_name pn_6) ?_
  intro p e s m below meth c s₁ hx hby hml hZ hown hnm X0 e0 Br Bs
  have N0 := Fr.nil n0
  have tt := own_tt hx hby own_ok16
  show own_Ends p e below s _ _ _ s₁ (mkF m 0 #[oR b3, oI 0] [])
  refine own_mrun2 (a0 := a0) (as := [b3, b4a, b4c, b4d, b4e]) (kc := [0, k4b, 0, 0, 0]) (fl := [fE16_9 0 (vR 1)]) (cl := []) (wl := []) (ks := [1]) (na := 5) (ls := [oR 0, oI 0]) (st := []) (me := [(1, (.object "java/lang/Object"), 10, [vR 2, vR 3, vR 4, .null, .null, .null, .null, .null, .null, .null])]) (pc' := 6) (ls' := [oR 0, oI 0]) (st' := [vR 2]) (ups := []) tt hZ hown X0 N0 e0 (oA (ow32 hw) trivial) trivial (oA PF11 trivial) (oA PV15 trivial) (Or.inl rfl) trivial rfl rfl (by decide +kernel) 4 (by decide +kernel) fun T5 h5 _ X5 N5 e5 K5 q5 M5 => ?_
  have e5 := e5.trans (q5 rfl)
  show own_Ends p e below s _ _ _ T5 (mkF m 6 #[oR b3, oI 0] [vR b4c])
  refine own_ret X5 (v := some (.ref b4c)) (oN Br) Bs (fun fs hr => own_retA X5 hx Br rfl rfl (hb hby d16_6) hr) ?_ (by decide) (by decide)
  unfold Q16a42
  exact ⟨rfl, N5, e5⟩
def Q13a39 (Z : State) (b3c : Addr) (h0 : Heap) (n0 : Nat) (v : Option Value) (h : Heap) (L : List Loc) : Prop := v = some (.ref b3c) ∧ Fr n0 L ∧ h = h0
set_option maxRecDepth 65536 in
set_option maxHeartbeats 40000000 in
theorem rm13a39 (l : Launch) (Z : State) (a0 : Array Value) (hw : HW a0 Z) (ws : List Jvm.Cond) (b3 : Addr) (b4a : Addr) (k4b : ClassId) (b4c : Addr) (b4d : Addr) (b4e : Addr) (h0 : Heap) (n0 : Nat) (Z0 : n0 ≤ h0.size) (PE9 : Exa Z h0 b3 "java/util/ArrayList") (PF11 : oF1 Z h0 b3 (.ref b4a)) (PF12 : oF2 Z h0 b3 (.int (3 : Int32))) (PV15 : Arv Z h0 b4a k4b (.object "java/lang/Object") (10 : Int32) [(.ref b4c), (.ref b4d), (.ref b4e), .null, .null, .null, .null, .null, .null, .null] .null) :
    own_Met l mn15 jdk_38_method_20_code 2 (some (.object "java/lang/Object")) ws (oRm 2 0 0 27) #[(.ref b3), (.int (0 : Int32))] Z h0 (Q13a39 Z b4c h0 n0) := by
  refine own_met (own := "java/util/ArrayList") rfl (plainFor_of_name pn_6) ?_
  intro p e s m below meth c s₁ hx hby hml hZ hown hnm X0 e0 Br Bs
  have N0 := Fr.nil n0
  have tt := own_tt hx hby own_ok13
  show own_Ends p e below s _ _ _ s₁ (mkF m 0 #[oR b3, oI 0] [])
  refine own_mrun2 (a0 := a0) (as := [b3]) (kc := [0]) (fl := [fE13_48 0 (vI 3)]) (cl := []) (wl := []) (ks := []) (na := 1) (ls := [oR 0, oI 0]) (st := []) (me := []) (pc' := 5) (ls' := [oR 0, oI 0]) (st' := [vI 3, vI 0]) (ups := []) tt hZ hown X0 N0 e0 (oA (ow57 hw) trivial) trivial (oA PF12 trivial) trivial (Or.inl rfl) trivial rfl rfl (by decide +kernel) 3 (by decide +kernel) fun T5 h5 _ X5 N5 e5 K5 q5 M5 => ?_
  have e5 := e5.trans (q5 rfl)
  show own_Ends p e below s _ _ _ T5 (mkF m 5 #[oR b3, oI 0] [vI 3, vI 0])
  obtain ⟨_, T6, Lc6, X6, hQ6, st6⟩ := own_outC (Jvm.LawKit.callS X5 hx (y := mn13) hown (mvT hZ (ow106 hw)) (mvT hZ (ow107 hw)) (mvT hZ (ow108 hw)) (mvT hZ (ow109 hw)) (by decide) (backOf (W := 0) (rm14a40 l Z a0 hw []  h0 n0 Z0 ) hZ (ow109 hw) (ow108 hw) (by decide) (by decide)) (g := (mkF m 5 #[oR b3, oI 0] [vI 3, vI 0])) rfl (by rw [hml]; rfl) (argsL := [(.int (0 : Int32)), (.int (3 : Int32))]) (rest := []) (lenOf pd7 rfl) rfl (by show 2 * 0 + _ ≤ _; exact Nat.le_of_eq rfl) (hb hby d13_5) (fun _ _ => ⟨rfl, e5, (by decide : 0 + 0 ≤ _), (by decide : 0 + 0 ≤ _)⟩))
  obtain ⟨rfl, N6q, hh6⟩ := hQ6
  have N6 := Fr.app N5 N6q
  obtain ⟨_, X6, N6⟩ := own_hide X6 N6
  refine own_go (T' := T6) (f' := (mkF m 11 #[oR b3, oI 0] [vI 0, vR b3])) (fun _ k => st6 _ (own_e X6 tt 8 3 k rfl)) ?_
  obtain ⟨cq7, kq7, q7a, q7b, q7c⟩ := isOf hZ hh6 PE9
  obtain ⟨_, T7, Lc7, X7, hQ7, st7⟩ := own_out (X6.virtualBack hx (y := mn14) (z := mn14) hown (mvT hZ (ow114 hw)) (mvT hZ (ow115 hw)) (notFace_of_selects (args := #[]) (mvT hZ (ow117 hw))) (mvT hZ (ow117 hw)) (mvT hZ (ow116 hw)) (by decide) (backOf (W := 0) (rm16a42 l Z a0 hw [] b3 b4a k4b b4c b4d b4e h0 n0 Z0 PF11 PV15) hZ (ow118 hw) (ow12 hw) (by decide) (by decide)) q7a q7c (g := (mkF m 11 #[oR b3, oI 0] [vI 0, vR b3])) rfl (by rw [hml]; rfl) (Steps.refl _) (argsL := [(.int (0 : Int32))]) (rest := []) (lenOf pd5 rfl) rfl (by show 2 * 0 + _ ≤ _; exact Nat.le_of_eq rfl) (hb hby d13_11) (fun _ _ => ⟨rfl, hh6, (by decide : 0 + 0 ≤ _), (by decide : 0 + 0 ≤ _)⟩))
  obtain ⟨rfl, N7q, hh7⟩ := hQ7
  have N7 := Fr.app N6 N7q
  obtain ⟨_, X7, N7⟩ := own_hide X7 N7
  refine own_go (T' := T7) (f' := (mkF m 14 #[oR b3, oI 0] [vR b4c])) (fun _ k => st7.trans k) ?_
  refine own_ret X7 (v := some (.ref b4c)) (oN Br) Bs (fun fs hr => own_retA X7 hx Br rfl rfl (hb hby d13_14) hr) ?_ (by decide) (by decide)
  unfold Q13a39
  exact ⟨rfl, N7, hh7⟩
def Q15a45 (Z : State)  (h0 : Heap) (n0 : Nat) (v : Option Value) (h : Heap) (L : List Loc) : Prop := v = some (.int (1 : Int32)) ∧ Fr n0 L ∧ h = h0
set_option maxRecDepth 65536 in
set_option maxHeartbeats 40000000 in
theorem rm15a45 (l : Launch) (Z : State) (a0 : Array Value) (hw : HW a0 Z) (ws : List Jvm.Cond)  (h0 : Heap) (n0 : Nat) (Z0 : n0 ≤ h0.size) :
    own_Met l mn12 jdk_41_method_11_code 3 (some .int) ws (oRm 0 0 0 0) #[(.int (1 : Int32)), (.int (3 : Int32)), .null] Z h0 (Q15a45 Z  h0 n0) := by
  refine own_met (own := "jdk/internal/util/Preconditions") rfl (plainFor_of_name pn_8) ?_
  intro p e s m below meth c s₁ hx hby hml hZ hown hnm X0 e0 Br Bs
  have N0 := Fr.nil n0
  have tt := own_tt hx hby own_ok15
  show own_Ends p e below s _ _ _ s₁ (mkF m 0 #[oI 1, oI 3, .val .null] [])
  refine own_go (T' := s₁) (f' := (mkF m 17 #[oI 1, oI 3, .val .null] [vI 1])) (fun _ k => own_e X0 tt 0 6 k rfl) ?_
  refine own_ret X0 (v := some (.int (1 : Int32))) (oN Br) Bs (fun fs hr => retI X0 hx Br (hb hby d15_17) hr) ?_ (by decide) (by decide)
  unfold Q15a45
  exact ⟨rfl, N0, e0⟩
def Q14a44 (Z : State)  (h0 : Heap) (n0 : Nat) (v : Option Value) (h : Heap) (L : List Loc) : Prop := v = some (.int (1 : Int32)) ∧ Fr n0 L ∧ h = h0
set_option maxRecDepth 65536 in
set_option maxHeartbeats 40000000 in
theorem rm14a44 (l : Launch) (Z : State) (a0 : Array Value) (hw : HW a0 Z) (ws : List Jvm.Cond)  (h0 : Heap) (n0 : Nat) (Z0 : n0 ≤ h0.size) :
    own_Met l mn13 jdk_31_method_17_code 2 (some .int) ws (oRm 1 0 0 14) #[(.int (1 : Int32)), (.int (3 : Int32))] Z h0 (Q14a44 Z  h0 n0) := by
  refine own_met (own := "java/util/Objects") rfl (plainFor_of_name pn_7) ?_
  intro p e s m below meth c s₁ hx hby hml hZ hown hnm X0 e0 Br Bs
  have N0 := Fr.nil n0
  have tt := own_tt hx hby own_ok14
  show own_Ends p e below s _ _ _ s₁ (mkF m 0 #[oI 1, oI 3] [])
  refine own_go (T' := s₁) (f' := (mkF m 3 #[oI 1, oI 3] [.null, vI 3, vI 1])) (fun _ k => own_e X0 tt 0 3 k rfl) ?_
  obtain ⟨_, T3, Lc3, X3, hQ3, st3⟩ := own_outC (Jvm.LawKit.callS X0 hx (y := mn12) hown (mvT hZ (ow110 hw)) (mvT hZ (ow111 hw)) (mvT hZ (ow112 hw)) (mvT hZ (ow113 hw)) (by decide) (backOf (W := 0) (rm15a45 l Z a0 hw []  h0 n0 Z0 ) hZ (ow113 hw) (ow112 hw) (by decide) (by decide)) (g := (mkF m 3 #[oI 1, oI 3] [.null, vI 3, vI 1])) rfl (by rw [hml]; rfl) (argsL := [(.int (1 : Int32)), (.int (3 : Int32)), .null]) (rest := []) (lenOf pd10 rfl) rfl (by show 2 * 0 + _ ≤ _; exact Nat.le_of_eq rfl) (hb hby d14_3) (fun _ _ => ⟨rfl, e0, (by decide : 0 + 0 ≤ _), (by decide : 0 + 0 ≤ _)⟩))
  obtain ⟨rfl, N3q, hh3⟩ := hQ3
  have N3 := Fr.app N0 N3q
  obtain ⟨_, X3, N3⟩ := own_hide X3 N3
  refine own_go (T' := T3) (f' := (mkF m 6 #[oI 1, oI 3] [vI 1])) (fun _ k => st3 _ k) ?_
  refine own_ret X3 (v := some (.int (1 : Int32))) (oN Br) Bs (fun fs hr => retI X3 hx Br (hb hby d14_6) hr) ?_ (by decide) (by decide)
  unfold Q14a44
  exact ⟨rfl, N3, hh3⟩
def Q16a46 (Z : State) (b3d : Addr) (h0 : Heap) (n0 : Nat) (v : Option Value) (h : Heap) (L : List Loc) : Prop := v = some (.ref b3d) ∧ Fr n0 L ∧ h = h0
set_option maxRecDepth 65536 in
set_option maxHeartbeats 40000000 in
theorem rm16a46 (l : Launch) (Z : State) (a0 : Array Value) (hw : HW a0 Z) (ws : List Jvm.Cond) (b3 : Addr) (b4a : Addr) (k4b : ClassId) (b4c : Addr) (b4d : Addr) (b4e : Addr) (h0 : Heap) (n0 : Nat) (Z0 : n0 ≤ h0.size) (PF11 : oF1 Z h0 b3 (.ref b4a)) (PV15 : Arv Z h0 b4a k4b (.object "java/lang/Object") (10 : Int32) [(.ref b4c), (.ref b4d), (.ref b4e), .null, .null, .null, .null, .null, .null, .null] .null) :
    own_Met l mn14 jdk_38_method_18_code 2 (some (.object "java/lang/Object")) ws (oRm 0 0 0 0) #[(.ref b3), (.int (1 : Int32))] Z h0 (Q16a46 Z b4d h0 n0) := by
  refine own_met (own := "java/util/ArrayList") rfl (plainFor_of_name pn_6) ?_
  intro p e s m below meth c s₁ hx hby hml hZ hown hnm X0 e0 Br Bs
  have N0 := Fr.nil n0
  have tt := own_tt hx hby own_ok16
  show own_Ends p e below s _ _ _ s₁ (mkF m 0 #[oR b3, oI 1] [])
  refine own_mrun2 (a0 := a0) (as := [b3, b4a, b4c, b4d, b4e]) (kc := [0, k4b, 0, 0, 0]) (fl := [fE16_9 0 (vR 1)]) (cl := []) (wl := []) (ks := [1]) (na := 5) (ls := [oR 0, oI 1]) (st := []) (me := [(1, (.object "java/lang/Object"), 10, [vR 2, vR 3, vR 4, .null, .null, .null, .null, .null, .null, .null])]) (pc' := 6) (ls' := [oR 0, oI 1]) (st' := [vR 3]) (ups := []) tt hZ hown X0 N0 e0 (oA (ow32 hw) trivial) trivial (oA PF11 trivial) (oA PV15 trivial) (Or.inl rfl) trivial rfl rfl (by decide +kernel) 4 (by decide +kernel) fun T5 h5 _ X5 N5 e5 K5 q5 M5 => ?_
  have e5 := e5.trans (q5 rfl)
  show own_Ends p e below s _ _ _ T5 (mkF m 6 #[oR b3, oI 1] [vR b4d])
  refine own_ret X5 (v := some (.ref b4d)) (oN Br) Bs (fun fs hr => own_retA X5 hx Br rfl rfl (hb hby d16_6) hr) ?_ (by decide) (by decide)
  unfold Q16a46
  exact ⟨rfl, N5, e5⟩
def Q13a43 (Z : State) (b3d : Addr) (h0 : Heap) (n0 : Nat) (v : Option Value) (h : Heap) (L : List Loc) : Prop := v = some (.ref b3d) ∧ Fr n0 L ∧ h = h0
set_option maxRecDepth 65536 in
set_option maxHeartbeats 40000000 in
theorem rm13a43 (l : Launch) (Z : State) (a0 : Array Value) (hw : HW a0 Z) (ws : List Jvm.Cond) (b3 : Addr) (b4a : Addr) (k4b : ClassId) (b4c : Addr) (b4d : Addr) (b4e : Addr) (h0 : Heap) (n0 : Nat) (Z0 : n0 ≤ h0.size) (PE9 : Exa Z h0 b3 "java/util/ArrayList") (PF11 : oF1 Z h0 b3 (.ref b4a)) (PF12 : oF2 Z h0 b3 (.int (3 : Int32))) (PV15 : Arv Z h0 b4a k4b (.object "java/lang/Object") (10 : Int32) [(.ref b4c), (.ref b4d), (.ref b4e), .null, .null, .null, .null, .null, .null, .null] .null) :
    own_Met l mn15 jdk_38_method_20_code 2 (some (.object "java/lang/Object")) ws (oRm 2 0 0 27) #[(.ref b3), (.int (1 : Int32))] Z h0 (Q13a43 Z b4d h0 n0) := by
  refine own_met (own := "java/util/ArrayList") rfl (plainFor_of_name pn_6) ?_
  intro p e s m below meth c s₁ hx hby hml hZ hown hnm X0 e0 Br Bs
  have N0 := Fr.nil n0
  have tt := own_tt hx hby own_ok13
  show own_Ends p e below s _ _ _ s₁ (mkF m 0 #[oR b3, oI 1] [])
  refine own_mrun2 (a0 := a0) (as := [b3]) (kc := [0]) (fl := [fE13_48 0 (vI 3)]) (cl := []) (wl := []) (ks := []) (na := 1) (ls := [oR 0, oI 1]) (st := []) (me := []) (pc' := 5) (ls' := [oR 0, oI 1]) (st' := [vI 3, vI 1]) (ups := []) tt hZ hown X0 N0 e0 (oA (ow57 hw) trivial) trivial (oA PF12 trivial) trivial (Or.inl rfl) trivial rfl rfl (by decide +kernel) 3 (by decide +kernel) fun T5 h5 _ X5 N5 e5 K5 q5 M5 => ?_
  have e5 := e5.trans (q5 rfl)
  show own_Ends p e below s _ _ _ T5 (mkF m 5 #[oR b3, oI 1] [vI 3, vI 1])
  obtain ⟨_, T6, Lc6, X6, hQ6, st6⟩ := own_outC (Jvm.LawKit.callS X5 hx (y := mn13) hown (mvT hZ (ow106 hw)) (mvT hZ (ow107 hw)) (mvT hZ (ow108 hw)) (mvT hZ (ow109 hw)) (by decide) (backOf (W := 0) (rm14a44 l Z a0 hw []  h0 n0 Z0 ) hZ (ow109 hw) (ow108 hw) (by decide) (by decide)) (g := (mkF m 5 #[oR b3, oI 1] [vI 3, vI 1])) rfl (by rw [hml]; rfl) (argsL := [(.int (1 : Int32)), (.int (3 : Int32))]) (rest := []) (lenOf pd7 rfl) rfl (by show 2 * 0 + _ ≤ _; exact Nat.le_of_eq rfl) (hb hby d13_5) (fun _ _ => ⟨rfl, e5, (by decide : 0 + 0 ≤ _), (by decide : 0 + 0 ≤ _)⟩))
  obtain ⟨rfl, N6q, hh6⟩ := hQ6
  have N6 := Fr.app N5 N6q
  obtain ⟨_, X6, N6⟩ := own_hide X6 N6
  refine own_go (T' := T6) (f' := (mkF m 11 #[oR b3, oI 1] [vI 1, vR b3])) (fun _ k => st6 _ (own_e X6 tt 8 3 k rfl)) ?_
  obtain ⟨cq7, kq7, q7a, q7b, q7c⟩ := isOf hZ hh6 PE9
  obtain ⟨_, T7, Lc7, X7, hQ7, st7⟩ := own_out (X6.virtualBack hx (y := mn14) (z := mn14) hown (mvT hZ (ow114 hw)) (mvT hZ (ow115 hw)) (notFace_of_selects (args := #[]) (mvT hZ (ow117 hw))) (mvT hZ (ow117 hw)) (mvT hZ (ow116 hw)) (by decide) (backOf (W := 0) (rm16a46 l Z a0 hw [] b3 b4a k4b b4c b4d b4e h0 n0 Z0 PF11 PV15) hZ (ow118 hw) (ow12 hw) (by decide) (by decide)) q7a q7c (g := (mkF m 11 #[oR b3, oI 1] [vI 1, vR b3])) rfl (by rw [hml]; rfl) (Steps.refl _) (argsL := [(.int (1 : Int32))]) (rest := []) (lenOf pd5 rfl) rfl (by show 2 * 0 + _ ≤ _; exact Nat.le_of_eq rfl) (hb hby d13_11) (fun _ _ => ⟨rfl, hh6, (by decide : 0 + 0 ≤ _), (by decide : 0 + 0 ≤ _)⟩))
  obtain ⟨rfl, N7q, hh7⟩ := hQ7
  have N7 := Fr.app N6 N7q
  obtain ⟨_, X7, N7⟩ := own_hide X7 N7
  refine own_go (T' := T7) (f' := (mkF m 14 #[oR b3, oI 1] [vR b4d])) (fun _ k => st7.trans k) ?_
  refine own_ret X7 (v := some (.ref b4d)) (oN Br) Bs (fun fs hr => own_retA X7 hx Br rfl rfl (hb hby d13_14) hr) ?_ (by decide) (by decide)
  unfold Q13a43
  exact ⟨rfl, N7, hh7⟩
def Q15a49 (Z : State)  (h0 : Heap) (n0 : Nat) (v : Option Value) (h : Heap) (L : List Loc) : Prop := v = some (.int (2 : Int32)) ∧ Fr n0 L ∧ h = h0
set_option maxRecDepth 65536 in
set_option maxHeartbeats 40000000 in
theorem rm15a49 (l : Launch) (Z : State) (a0 : Array Value) (hw : HW a0 Z) (ws : List Jvm.Cond)  (h0 : Heap) (n0 : Nat) (Z0 : n0 ≤ h0.size) :
    own_Met l mn12 jdk_41_method_11_code 3 (some .int) ws (oRm 0 0 0 0) #[(.int (2 : Int32)), (.int (3 : Int32)), .null] Z h0 (Q15a49 Z  h0 n0) := by
  refine own_met (own := "jdk/internal/util/Preconditions") rfl (plainFor_of_name pn_8) ?_
  intro p e s m below meth c s₁ hx hby hml hZ hown hnm X0 e0 Br Bs
  have N0 := Fr.nil n0
  have tt := own_tt hx hby own_ok15
  show own_Ends p e below s _ _ _ s₁ (mkF m 0 #[oI 2, oI 3, .val .null] [])
  refine own_go (T' := s₁) (f' := (mkF m 17 #[oI 2, oI 3, .val .null] [vI 2])) (fun _ k => own_e X0 tt 0 6 k rfl) ?_
  refine own_ret X0 (v := some (.int (2 : Int32))) (oN Br) Bs (fun fs hr => retI X0 hx Br (hb hby d15_17) hr) ?_ (by decide) (by decide)
  unfold Q15a49
  exact ⟨rfl, N0, e0⟩
def Q14a48 (Z : State)  (h0 : Heap) (n0 : Nat) (v : Option Value) (h : Heap) (L : List Loc) : Prop := v = some (.int (2 : Int32)) ∧ Fr n0 L ∧ h = h0
set_option maxRecDepth 65536 in
set_option maxHeartbeats 40000000 in
theorem rm14a48 (l : Launch) (Z : State) (a0 : Array Value) (hw : HW a0 Z) (ws : List Jvm.Cond)  (h0 : Heap) (n0 : Nat) (Z0 : n0 ≤ h0.size) :
    own_Met l mn13 jdk_31_method_17_code 2 (some .int) ws (oRm 1 0 0 14) #[(.int (2 : Int32)), (.int (3 : Int32))] Z h0 (Q14a48 Z  h0 n0) := by
  refine own_met (own := "java/util/Objects") rfl (plainFor_of_name pn_7) ?_
  intro p e s m below meth c s₁ hx hby hml hZ hown hnm X0 e0 Br Bs
  have N0 := Fr.nil n0
  have tt := own_tt hx hby own_ok14
  show own_Ends p e below s _ _ _ s₁ (mkF m 0 #[oI 2, oI 3] [])
  refine own_go (T' := s₁) (f' := (mkF m 3 #[oI 2, oI 3] [.null, vI 3, vI 2])) (fun _ k => own_e X0 tt 0 3 k rfl) ?_
  obtain ⟨_, T3, Lc3, X3, hQ3, st3⟩ := own_outC (Jvm.LawKit.callS X0 hx (y := mn12) hown (mvT hZ (ow110 hw)) (mvT hZ (ow111 hw)) (mvT hZ (ow112 hw)) (mvT hZ (ow113 hw)) (by decide) (backOf (W := 0) (rm15a49 l Z a0 hw []  h0 n0 Z0 ) hZ (ow113 hw) (ow112 hw) (by decide) (by decide)) (g := (mkF m 3 #[oI 2, oI 3] [.null, vI 3, vI 2])) rfl (by rw [hml]; rfl) (argsL := [(.int (2 : Int32)), (.int (3 : Int32)), .null]) (rest := []) (lenOf pd10 rfl) rfl (by show 2 * 0 + _ ≤ _; exact Nat.le_of_eq rfl) (hb hby d14_3) (fun _ _ => ⟨rfl, e0, (by decide : 0 + 0 ≤ _), (by decide : 0 + 0 ≤ _)⟩))
  obtain ⟨rfl, N3q, hh3⟩ := hQ3
  have N3 := Fr.app N0 N3q
  obtain ⟨_, X3, N3⟩ := own_hide X3 N3
  refine own_go (T' := T3) (f' := (mkF m 6 #[oI 2, oI 3] [vI 2])) (fun _ k => st3 _ k) ?_
  refine own_ret X3 (v := some (.int (2 : Int32))) (oN Br) Bs (fun fs hr => retI X3 hx Br (hb hby d14_6) hr) ?_ (by decide) (by decide)
  unfold Q14a48
  exact ⟨rfl, N3, hh3⟩
def Q16a50 (Z : State) (b3e : Addr) (h0 : Heap) (n0 : Nat) (v : Option Value) (h : Heap) (L : List Loc) : Prop := v = some (.ref b3e) ∧ Fr n0 L ∧ h = h0
set_option maxRecDepth 65536 in
set_option maxHeartbeats 40000000 in
theorem rm16a50 (l : Launch) (Z : State) (a0 : Array Value) (hw : HW a0 Z) (ws : List Jvm.Cond) (b3 : Addr) (b4a : Addr) (k4b : ClassId) (b4c : Addr) (b4d : Addr) (b4e : Addr) (h0 : Heap) (n0 : Nat) (Z0 : n0 ≤ h0.size) (PF11 : oF1 Z h0 b3 (.ref b4a)) (PV15 : Arv Z h0 b4a k4b (.object "java/lang/Object") (10 : Int32) [(.ref b4c), (.ref b4d), (.ref b4e), .null, .null, .null, .null, .null, .null, .null] .null) :
    own_Met l mn14 jdk_38_method_18_code 2 (some (.object "java/lang/Object")) ws (oRm 0 0 0 0) #[(.ref b3), (.int (2 : Int32))] Z h0 (Q16a50 Z b4e h0 n0) := by
  refine own_met (own := "java/util/ArrayList") rfl (plainFor_of_name pn_6) ?_
  intro p e s m below meth c s₁ hx hby hml hZ hown hnm X0 e0 Br Bs
  have N0 := Fr.nil n0
  have tt := own_tt hx hby own_ok16
  show own_Ends p e below s _ _ _ s₁ (mkF m 0 #[oR b3, oI 2] [])
  refine own_mrun2 (a0 := a0) (as := [b3, b4a, b4c, b4d, b4e]) (kc := [0, k4b, 0, 0, 0]) (fl := [fE16_9 0 (vR 1)]) (cl := []) (wl := []) (ks := [1]) (na := 5) (ls := [oR 0, oI 2]) (st := []) (me := [(1, (.object "java/lang/Object"), 10, [vR 2, vR 3, vR 4, .null, .null, .null, .null, .null, .null, .null])]) (pc' := 6) (ls' := [oR 0, oI 2]) (st' := [vR 4]) (ups := []) tt hZ hown X0 N0 e0 (oA (ow32 hw) trivial) trivial (oA PF11 trivial) (oA PV15 trivial) (Or.inl rfl) trivial rfl rfl (by decide +kernel) 4 (by decide +kernel) fun T5 h5 _ X5 N5 e5 K5 q5 M5 => ?_
  have e5 := e5.trans (q5 rfl)
  show own_Ends p e below s _ _ _ T5 (mkF m 6 #[oR b3, oI 2] [vR b4e])
  refine own_ret X5 (v := some (.ref b4e)) (oN Br) Bs (fun fs hr => own_retA X5 hx Br rfl rfl (hb hby d16_6) hr) ?_ (by decide) (by decide)
  unfold Q16a50
  exact ⟨rfl, N5, e5⟩
def Q13a47 (Z : State) (b3e : Addr) (h0 : Heap) (n0 : Nat) (v : Option Value) (h : Heap) (L : List Loc) : Prop := v = some (.ref b3e) ∧ Fr n0 L ∧ h = h0
set_option maxRecDepth 65536 in
set_option maxHeartbeats 40000000 in
theorem rm13a47 (l : Launch) (Z : State) (a0 : Array Value) (hw : HW a0 Z) (ws : List Jvm.Cond) (b3 : Addr) (b4a : Addr) (k4b : ClassId) (b4c : Addr) (b4d : Addr) (b4e : Addr) (h0 : Heap) (n0 : Nat) (Z0 : n0 ≤ h0.size) (PE9 : Exa Z h0 b3 "java/util/ArrayList") (PF11 : oF1 Z h0 b3 (.ref b4a)) (PF12 : oF2 Z h0 b3 (.int (3 : Int32))) (PV15 : Arv Z h0 b4a k4b (.object "java/lang/Object") (10 : Int32) [(.ref b4c), (.ref b4d), (.ref b4e), .null, .null, .null, .null, .null, .null, .null] .null) :
    own_Met l mn15 jdk_38_method_20_code 2 (some (.object "java/lang/Object")) ws (oRm 2 0 0 27) #[(.ref b3), (.int (2 : Int32))] Z h0 (Q13a47 Z b4e h0 n0) := by
  refine own_met (own := "java/util/ArrayList") rfl (plainFor_of_name pn_6) ?_
  intro p e s m below meth c s₁ hx hby hml hZ hown hnm X0 e0 Br Bs
  have N0 := Fr.nil n0
  have tt := own_tt hx hby own_ok13
  show own_Ends p e below s _ _ _ s₁ (mkF m 0 #[oR b3, oI 2] [])
  refine own_mrun2 (a0 := a0) (as := [b3]) (kc := [0]) (fl := [fE13_48 0 (vI 3)]) (cl := []) (wl := []) (ks := []) (na := 1) (ls := [oR 0, oI 2]) (st := []) (me := []) (pc' := 5) (ls' := [oR 0, oI 2]) (st' := [vI 3, vI 2]) (ups := []) tt hZ hown X0 N0 e0 (oA (ow57 hw) trivial) trivial (oA PF12 trivial) trivial (Or.inl rfl) trivial rfl rfl (by decide +kernel) 3 (by decide +kernel) fun T5 h5 _ X5 N5 e5 K5 q5 M5 => ?_
  have e5 := e5.trans (q5 rfl)
  show own_Ends p e below s _ _ _ T5 (mkF m 5 #[oR b3, oI 2] [vI 3, vI 2])
  obtain ⟨_, T6, Lc6, X6, hQ6, st6⟩ := own_outC (Jvm.LawKit.callS X5 hx (y := mn13) hown (mvT hZ (ow106 hw)) (mvT hZ (ow107 hw)) (mvT hZ (ow108 hw)) (mvT hZ (ow109 hw)) (by decide) (backOf (W := 0) (rm14a48 l Z a0 hw []  h0 n0 Z0 ) hZ (ow109 hw) (ow108 hw) (by decide) (by decide)) (g := (mkF m 5 #[oR b3, oI 2] [vI 3, vI 2])) rfl (by rw [hml]; rfl) (argsL := [(.int (2 : Int32)), (.int (3 : Int32))]) (rest := []) (lenOf pd7 rfl) rfl (by show 2 * 0 + _ ≤ _; exact Nat.le_of_eq rfl) (hb hby d13_5) (fun _ _ => ⟨rfl, e5, (by decide : 0 + 0 ≤ _), (by decide : 0 + 0 ≤ _)⟩))
  obtain ⟨rfl, N6q, hh6⟩ := hQ6
  have N6 := Fr.app N5 N6q
  obtain ⟨_, X6, N6⟩ := own_hide X6 N6
  refine own_go (T' := T6) (f' := (mkF m 11 #[oR b3, oI 2] [vI 2, vR b3])) (fun _ k => st6 _ (own_e X6 tt 8 3 k rfl)) ?_
  obtain ⟨cq7, kq7, q7a, q7b, q7c⟩ := isOf hZ hh6 PE9
  obtain ⟨_, T7, Lc7, X7, hQ7, st7⟩ := own_out (X6.virtualBack hx (y := mn14) (z := mn14) hown (mvT hZ (ow114 hw)) (mvT hZ (ow115 hw)) (notFace_of_selects (args := #[]) (mvT hZ (ow117 hw))) (mvT hZ (ow117 hw)) (mvT hZ (ow116 hw)) (by decide) (backOf (W := 0) (rm16a50 l Z a0 hw [] b3 b4a k4b b4c b4d b4e h0 n0 Z0 PF11 PV15) hZ (ow118 hw) (ow12 hw) (by decide) (by decide)) q7a q7c (g := (mkF m 11 #[oR b3, oI 2] [vI 2, vR b3])) rfl (by rw [hml]; rfl) (Steps.refl _) (argsL := [(.int (2 : Int32))]) (rest := []) (lenOf pd5 rfl) rfl (by show 2 * 0 + _ ≤ _; exact Nat.le_of_eq rfl) (hb hby d13_11) (fun _ _ => ⟨rfl, hh6, (by decide : 0 + 0 ≤ _), (by decide : 0 + 0 ≤ _)⟩))
  obtain ⟨rfl, N7q, hh7⟩ := hQ7
  have N7 := Fr.app N6 N7q
  obtain ⟨_, X7, N7⟩ := own_hide X7 N7
  refine own_go (T' := T7) (f' := (mkF m 14 #[oR b3, oI 2] [vR b4e])) (fun _ k => st7.trans k) ?_
  refine own_ret X7 (v := some (.ref b4e)) (oN Br) Bs (fun fs hr => own_retA X7 hx Br rfl rfl (hb hby d13_14) hr) ?_ (by decide) (by decide)
  unfold Q13a47
  exact ⟨rfl, N7, hh7⟩
def Q17a51 (Z : State)  (h0 : Heap) (n0 : Nat) (v : Option Value) (h : Heap) (L : List Loc) : Prop := v = some (.long (-2097152 : Int64)) ∧ Fr n0 L ∧ h = h0
set_option maxRecDepth 65536 in
set_option maxHeartbeats 40000000 in
theorem rm17a51 (l : Launch) (Z : State) (a0 : Array Value) (hw : HW a0 Z) (ws : List Jvm.Cond) (b6 : Addr) (b7 : Addr) (b8 : Addr) (b9 : Addr) (k7 : ClassId) (x7a : Addr) (x7b : Addr) (x7c : Addr) (kc7 : ClassId) (k8 : ClassId) (x8a : Addr) (x8b : Addr) (x8c : Addr) (kc8 : ClassId) (k9 : ClassId) (h0 : Heap) (n0 : Nat) (Z0 : n0 ≤ h0.size) (PF3 : oF3 Z h0 b6 (.ref b7)) (PF4 : oF4 Z h0 b6 (.ref b8)) (PF5 : oF5 Z h0 b6 (.ref b9)) (PV22 : Arv Z h0 b7 k7 (.array .int) (3 : Int32) [(.ref x7a), (.ref x7b), (.ref x7c)] .null) (PV24 : Arv Z h0 x7a kc7 .int (3 : Int32) [(.int (42 : Int32)), (.int (21 : Int32)), (.int (0 : Int32))] (.int (0 : Int32))) (PV30 : Arv Z h0 b8 k8 (.array .int) (3 : Int32) [(.ref x8a), (.ref x8b), (.ref x8c)] .null) (PV32 : Arv Z h0 x8a kc8 .int (3 : Int32) [(.int (22 : Int32)), (.int (21 : Int32)), (.int (21 : Int32))] (.int (0 : Int32))) (PV38 : Arv Z h0 b9 k9 .int (3 : Int32) [(.int (43 : Int32)), (.int (43 : Int32)), (.int (42 : Int32))] (.int (0 : Int32))) :
    own_Met l mn17 prog_28_method_8_code 6 (some .long) ws (oRm 0 0 0 0) #[(.ref b6), (.int (0 : Int32))] Z h0 (Q17a51 Z  h0 n0) := by
  refine own_met (own := "com/example/libakin/libakin/simhash/Layout") rfl (plainFor_of_name pn_0) ?_
  intro p e s m below meth c s₁ hx hby hml hZ hown hnm X0 e0 Br Bs
  have N0 := Fr.nil n0
  have tt := own_tt hx hby own_ok17
  show own_Ends p e below s _ _ _ s₁ (mkF m 0 #[oR b6, oI 0, oU, oU, oU, oU] [])
  refine own_mrun2 (a0 := a0) (as := [b6, b7, b8, b9, x7a, x7b, x7c, x8a, x8b, x8c]) (kc := [0, k7, k8, k9, kc7, 0, 0, kc8, 0, 0]) (fl := [fE17_32 0 (vR 3), fE17_29 0 (vR 2), fE17_26 0 (vR 1)]) (cl := [(86, (-1))]) (wl := []) (ks := [3, 2, 7, 1, 4]) (na := 10) (ls := [oR 0, oI 0, oU, oU, oU, oU]) (st := []) (me := [(3, .int, 3, [vI 43, vI 43, vI 42]), (2, (.array .int), 3, [vR 7, vR 8, vR 9]), (7, .int, 3, [vI 22, vI 21, vI 21]), (1, (.array .int), 3, [vR 4, vR 5, vR 6]), (4, .int, 3, [vI 42, vI 21, vI 0])]) (pc' := 68) (ls' := [oR 0, oI 0, .val (.long (-2097152)), oS, oI 0, oI 2]) (st' := [.long (-2097152)]) (ups := []) tt hZ hown X0 N0 e0 (oA (ow95 hw) (oA (ow93 hw) (oA (ow91 hw) trivial))) (oA (ow129 hw) trivial) (oA PF5 (oA PF4 (oA PF3 trivial))) (oA PV38 (oA PV30 (oA PV32 (oA PV22 (oA PV24 trivial))))) (Or.inl rfl) trivial rfl rfl (by decide +kernel) 78 (by decide +kernel) fun T10 h10 _ X10 N10 e10 K10 q10 M10 => ?_
  have e10 := e10.trans (q10 rfl)
  show own_Ends p e below s _ _ _ T10 (mkF m 68 #[oR b6, oI 0, .val (.long (-2097152 : Int64)), oS, oI 0, oI 2] [(.long (-2097152 : Int64))])
  refine own_ret X10 (v := some (.long (-2097152 : Int64))) (oN Br) Bs (fun fs hr => own_retL X10 hx Br (hb hby d17_68) hr) ?_ (by decide) (by decide)
  unfold Q17a51
  exact ⟨rfl, N10, e10⟩
def Q18a52 (Z : State)  (h0 : Heap) (n0 : Nat) (v : Option Value) (h : Heap) (L : List Loc) : Prop := v = some (.long (-4398044413953 : Int64)) ∧ Fr n0 L ∧ h = h0
set_option maxRecDepth 65536 in
set_option maxHeartbeats 40000000 in
theorem rm18a52 (l : Launch) (Z : State) (a0 : Array Value) (hw : HW a0 Z) (ws : List Jvm.Cond) (b5 : Addr) (b6 : Addr) (b7 : Addr) (k6 : ClassId) (x6a : Addr) (x6b : Addr) (x6c : Addr) (kc6 : ClassId) (k7 : ClassId) (x7a : Addr) (x7b : Addr) (x7c : Addr) (kc7 : ClassId) (h0 : Heap) (n0 : Nat) (Z0 : n0 ≤ h0.size) (PF3 : oF3 Z h0 b5 (.ref b6)) (PF4 : oF4 Z h0 b5 (.ref b7)) (PV22 : Arv Z h0 b6 k6 (.array .int) (3 : Int32) [(.ref x6a), (.ref x6b), (.ref x6c)] .null) (PV26 : Arv Z h0 x6b kc6 .int (3 : Int32) [(.int (42 : Int32)), (.int (0 : Int32)), (.int (21 : Int32))] (.int (0 : Int32))) (PV30 : Arv Z h0 b7 k7 (.array .int) (3 : Int32) [(.ref x7a), (.ref x7b), (.ref x7c)] .null) (PV34 : Arv Z h0 x7b kc7 .int (3 : Int32) [(.int (22 : Int32)), (.int (21 : Int32)), (.int (21 : Int32))] (.int (0 : Int32))) :
    own_Met l mn18 prog_28_method_6_code 9 (some .long) ws (oRm 0 0 0 0) #[(.ref b5), (.int (1 : Int32)), (.long (-2097152 : Int64))] Z h0 (Q18a52 Z  h0 n0) := by
  refine own_met (own := "com/example/libakin/libakin/simhash/Layout") rfl (plainFor_of_name pn_0) ?_
  intro p e s m below meth c s₁ hx hby hml hZ hown hnm X0 e0 Br Bs
  have N0 := Fr.nil n0
  have tt := own_tt hx hby own_ok18
  show own_Ends p e below s _ _ _ s₁ (mkF m 0 #[oR b5, oI 1, .val (.long (-2097152 : Int64)), oS, oU, oU, oU, oU, oU] [])
  refine own_mrun2 (a0 := a0) (as := [b5, b6, b7, x6a, x6b, x6c, x7a, x7b, x7c]) (kc := [0, k6, k7, 0, kc6, 0, 0, kc7, 0]) (fl := [fE18_29 0 (vR 2), fE18_26 0 (vR 1)]) (cl := [(86, (-1))]) (wl := []) (ks := [2, 7, 1, 4]) (na := 9) (ls := [oR 0, oI 1, .val (.long (-2097152)), oS, oU, oU, oU, oU, oU]) (st := []) (me := [(2, (.array .int), 3, [vR 6, vR 7, vR 8]), (7, .int, 3, [vI 22, vI 21, vI 21]), (1, (.array .int), 3, [vR 3, vR 4, vR 5]), (4, .int, 3, [vI 42, vI 0, vI 21])]) (pc' := 73) (ls' := [oR 0, oI 1, .val (.long (-2097152)), oS, .val (.long (-4398044413953)), oS, oI 3, .val (.long 2097151), oS]) (st' := [.long (-4398044413953)]) (ups := []) tt hZ hown X0 N0 e0 (oA (ow93 hw) (oA (ow91 hw) trivial)) (oA (ow129 hw) trivial) (oA PF4 (oA PF3 trivial)) (oA PV30 (oA PV34 (oA PV22 (oA PV26 trivial)))) (Or.inl rfl) trivial rfl rfl (by decide +kernel) 132 (by decide +kernel) fun T8 h8 _ X8 N8 e8 K8 q8 M8 => ?_
  have e8 := e8.trans (q8 rfl)
  show own_Ends p e below s _ _ _ T8 (mkF m 73 #[oR b5, oI 1, .val (.long (-2097152 : Int64)), oS, .val (.long (-4398044413953 : Int64)), oS, oI 3, .val (.long (2097151 : Int64)), oS] [(.long (-4398044413953 : Int64))])
  refine own_ret X8 (v := some (.long (-4398044413953 : Int64))) (oN Br) Bs (fun fs hr => own_retL X8 hx Br (hb hby d18_73) hr) ?_ (by decide) (by decide)
  unfold Q18a52
  exact ⟨rfl, N8, e8⟩
def Q18a53 (Z : State)  (h0 : Heap) (n0 : Nat) (v : Option Value) (h : Heap) (L : List Loc) : Prop := v = some (.long (-8796088827905 : Int64)) ∧ Fr n0 L ∧ h = h0
set_option maxRecDepth 65536 in
set_option maxHeartbeats 40000000 in
theorem rm18a53 (l : Launch) (Z : State) (a0 : Array Value) (hw : HW a0 Z) (ws : List Jvm.Cond) (b5 : Addr) (b6 : Addr) (b7 : Addr) (k6 : ClassId) (x6a : Addr) (x6b : Addr) (x6c : Addr) (kc6 : ClassId) (k7 : ClassId) (x7a : Addr) (x7b : Addr) (x7c : Addr) (kc7 : ClassId) (h0 : Heap) (n0 : Nat) (Z0 : n0 ≤ h0.size) (PF3 : oF3 Z h0 b5 (.ref b6)) (PF4 : oF4 Z h0 b5 (.ref b7)) (PV22 : Arv Z h0 b6 k6 (.array .int) (3 : Int32) [(.ref x6a), (.ref x6b), (.ref x6c)] .null) (PV28 : Arv Z h0 x6c kc6 .int (3 : Int32) [(.int (21 : Int32)), (.int (0 : Int32)), (.int (42 : Int32))] (.int (0 : Int32))) (PV30 : Arv Z h0 b7 k7 (.array .int) (3 : Int32) [(.ref x7a), (.ref x7b), (.ref x7c)] .null) (PV36 : Arv Z h0 x7c kc7 .int (3 : Int32) [(.int (21 : Int32)), (.int (21 : Int32)), (.int (22 : Int32))] (.int (0 : Int32))) :
    own_Met l mn18 prog_28_method_6_code 9 (some .long) ws (oRm 0 0 0 0) #[(.ref b5), (.int (2 : Int32)), (.long (-2097152 : Int64))] Z h0 (Q18a53 Z  h0 n0) := by
  refine own_met (own := "com/example/libakin/libakin/simhash/Layout") rfl (plainFor_of_name pn_0) ?_
  intro p e s m below meth c s₁ hx hby hml hZ hown hnm X0 e0 Br Bs
  have N0 := Fr.nil n0
  have tt := own_tt hx hby own_ok18
  show own_Ends p e below s _ _ _ s₁ (mkF m 0 #[oR b5, oI 2, .val (.long (-2097152 : Int64)), oS, oU, oU, oU, oU, oU] [])
  refine own_mrun2 (a0 := a0) (as := [b5, b6, b7, x6a, x6b, x6c, x7a, x7b, x7c]) (kc := [0, k6, k7, 0, 0, kc6, 0, 0, kc7]) (fl := [fE18_29 0 (vR 2), fE18_26 0 (vR 1)]) (cl := [(86, (-1))]) (wl := []) (ks := [2, 8, 1, 5]) (na := 9) (ls := [oR 0, oI 2, .val (.long (-2097152)), oS, oU, oU, oU, oU, oU]) (st := []) (me := [(2, (.array .int), 3, [vR 6, vR 7, vR 8]), (8, .int, 3, [vI 21, vI 21, vI 22]), (1, (.array .int), 3, [vR 3, vR 4, vR 5]), (5, .int, 3, [vI 21, vI 0, vI 42])]) (pc' := 73) (ls' := [oR 0, oI 2, .val (.long (-2097152)), oS, .val (.long (-8796088827905)), oS, oI 3, .val (.long 4194303), oS]) (st' := [.long (-8796088827905)]) (ups := []) tt hZ hown X0 N0 e0 (oA (ow93 hw) (oA (ow91 hw) trivial)) (oA (ow129 hw) trivial) (oA PF4 (oA PF3 trivial)) (oA PV30 (oA PV36 (oA PV22 (oA PV28 trivial)))) (Or.inl rfl) trivial rfl rfl (by decide +kernel) 132 (by decide +kernel) fun T8 h8 _ X8 N8 e8 K8 q8 M8 => ?_
  have e8 := e8.trans (q8 rfl)
  show own_Ends p e below s _ _ _ T8 (mkF m 73 #[oR b5, oI 2, .val (.long (-2097152 : Int64)), oS, .val (.long (-8796088827905 : Int64)), oS, oI 3, .val (.long (4194303 : Int64)), oS] [(.long (-8796088827905 : Int64))])
  refine own_ret X8 (v := some (.long (-8796088827905 : Int64))) (oN Br) Bs (fun fs hr => own_retL X8 hx Br (hb hby d18_73) hr) ?_ (by decide) (by decide)
  unfold Q18a53
  exact ⟨rfl, N8, e8⟩
def Q17a54 (Z : State)  (h0 : Heap) (n0 : Nat) (v : Option Value) (h : Heap) (L : List Loc) : Prop := v = some (.long (-4398044413953 : Int64)) ∧ Fr n0 L ∧ h = h0
set_option maxRecDepth 65536 in
set_option maxHeartbeats 40000000 in
theorem rm17a54 (l : Launch) (Z : State) (a0 : Array Value) (hw : HW a0 Z) (ws : List Jvm.Cond) (b6 : Addr) (b7 : Addr) (b8 : Addr) (b9 : Addr) (k7 : ClassId) (x7a : Addr) (x7b : Addr) (x7c : Addr) (kc7 : ClassId) (k8 : ClassId) (x8a : Addr) (x8b : Addr) (x8c : Addr) (kc8 : ClassId) (k9 : ClassId) (h0 : Heap) (n0 : Nat) (Z0 : n0 ≤ h0.size) (PF3 : oF3 Z h0 b6 (.ref b7)) (PF4 : oF4 Z h0 b6 (.ref b8)) (PF5 : oF5 Z h0 b6 (.ref b9)) (PV22 : Arv Z h0 b7 k7 (.array .int) (3 : Int32) [(.ref x7a), (.ref x7b), (.ref x7c)] .null) (PV26 : Arv Z h0 x7b kc7 .int (3 : Int32) [(.int (42 : Int32)), (.int (0 : Int32)), (.int (21 : Int32))] (.int (0 : Int32))) (PV30 : Arv Z h0 b8 k8 (.array .int) (3 : Int32) [(.ref x8a), (.ref x8b), (.ref x8c)] .null) (PV34 : Arv Z h0 x8b kc8 .int (3 : Int32) [(.int (22 : Int32)), (.int (21 : Int32)), (.int (21 : Int32))] (.int (0 : Int32))) (PV38 : Arv Z h0 b9 k9 .int (3 : Int32) [(.int (43 : Int32)), (.int (43 : Int32)), (.int (42 : Int32))] (.int (0 : Int32))) :
    own_Met l mn17 prog_28_method_8_code 6 (some .long) ws (oRm 0 0 0 0) #[(.ref b6), (.int (1 : Int32))] Z h0 (Q17a54 Z  h0 n0) := by
  refine own_met (own := "com/example/libakin/libakin/simhash/Layout") rfl (plainFor_of_name pn_0) ?_
  intro p e s m below meth c s₁ hx hby hml hZ hown hnm X0 e0 Br Bs
  have N0 := Fr.nil n0
  have tt := own_tt hx hby own_ok17
  show own_Ends p e below s _ _ _ s₁ (mkF m 0 #[oR b6, oI 1, oU, oU, oU, oU] [])
  refine own_mrun2 (a0 := a0) (as := [b6, b7, b8, b9, x7a, x7b, x7c, x8a, x8b, x8c]) (kc := [0, k7, k8, k9, 0, kc7, 0, 0, kc8, 0]) (fl := [fE17_32 0 (vR 3), fE17_29 0 (vR 2), fE17_26 0 (vR 1)]) (cl := [(86, (-1))]) (wl := []) (ks := [3, 2, 8, 1, 5]) (na := 10) (ls := [oR 0, oI 1, oU, oU, oU, oU]) (st := []) (me := [(3, .int, 3, [vI 43, vI 43, vI 42]), (2, (.array .int), 3, [vR 7, vR 8, vR 9]), (8, .int, 3, [vI 22, vI 21, vI 21]), (1, (.array .int), 3, [vR 4, vR 5, vR 6]), (5, .int, 3, [vI 42, vI 0, vI 21])]) (pc' := 68) (ls' := [oR 0, oI 1, .val (.long (-4398044413953)), oS, oI 0, oI 2]) (st' := [.long (-4398044413953)]) (ups := []) tt hZ hown X0 N0 e0 (oA (ow95 hw) (oA (ow93 hw) (oA (ow91 hw) trivial))) (oA (ow129 hw) trivial) (oA PF5 (oA PF4 (oA PF3 trivial))) (oA PV38 (oA PV30 (oA PV34 (oA PV22 (oA PV26 trivial))))) (Or.inl rfl) trivial rfl rfl (by decide +kernel) 78 (by decide +kernel) fun T10 h10 _ X10 N10 e10 K10 q10 M10 => ?_
  have e10 := e10.trans (q10 rfl)
  show own_Ends p e below s _ _ _ T10 (mkF m 68 #[oR b6, oI 1, .val (.long (-4398044413953 : Int64)), oS, oI 0, oI 2] [(.long (-4398044413953 : Int64))])
  refine own_ret X10 (v := some (.long (-4398044413953 : Int64))) (oN Br) Bs (fun fs hr => own_retL X10 hx Br (hb hby d17_68) hr) ?_ (by decide) (by decide)
  unfold Q17a54
  exact ⟨rfl, N10, e10⟩
def Q18a55 (Z : State)  (h0 : Heap) (n0 : Nat) (v : Option Value) (h : Heap) (L : List Loc) : Prop := v = some (.long (8796093022207 : Int64)) ∧ Fr n0 L ∧ h = h0
set_option maxRecDepth 65536 in
set_option maxHeartbeats 40000000 in
theorem rm18a55 (l : Launch) (Z : State) (a0 : Array Value) (hw : HW a0 Z) (ws : List Jvm.Cond) (b5 : Addr) (b6 : Addr) (b7 : Addr) (k6 : ClassId) (x6a : Addr) (x6b : Addr) (x6c : Addr) (kc6 : ClassId) (k7 : ClassId) (x7a : Addr) (x7b : Addr) (x7c : Addr) (kc7 : ClassId) (h0 : Heap) (n0 : Nat) (Z0 : n0 ≤ h0.size) (PF3 : oF3 Z h0 b5 (.ref b6)) (PF4 : oF4 Z h0 b5 (.ref b7)) (PV22 : Arv Z h0 b6 k6 (.array .int) (3 : Int32) [(.ref x6a), (.ref x6b), (.ref x6c)] .null) (PV28 : Arv Z h0 x6c kc6 .int (3 : Int32) [(.int (21 : Int32)), (.int (0 : Int32)), (.int (42 : Int32))] (.int (0 : Int32))) (PV30 : Arv Z h0 b7 k7 (.array .int) (3 : Int32) [(.ref x7a), (.ref x7b), (.ref x7c)] .null) (PV36 : Arv Z h0 x7c kc7 .int (3 : Int32) [(.int (21 : Int32)), (.int (21 : Int32)), (.int (22 : Int32))] (.int (0 : Int32))) :
    own_Met l mn18 prog_28_method_6_code 9 (some .long) ws (oRm 0 0 0 0) #[(.ref b5), (.int (2 : Int32)), (.long (-4398044413953 : Int64))] Z h0 (Q18a55 Z  h0 n0) := by
  refine own_met (own := "com/example/libakin/libakin/simhash/Layout") rfl (plainFor_of_name pn_0) ?_
  intro p e s m below meth c s₁ hx hby hml hZ hown hnm X0 e0 Br Bs
  have N0 := Fr.nil n0
  have tt := own_tt hx hby own_ok18
  show own_Ends p e below s _ _ _ s₁ (mkF m 0 #[oR b5, oI 2, .val (.long (-4398044413953 : Int64)), oS, oU, oU, oU, oU, oU] [])
  refine own_mrun2 (a0 := a0) (as := [b5, b6, b7, x6a, x6b, x6c, x7a, x7b, x7c]) (kc := [0, k6, k7, 0, 0, kc6, 0, 0, kc7]) (fl := [fE18_29 0 (vR 2), fE18_26 0 (vR 1)]) (cl := [(86, (-1))]) (wl := []) (ks := [2, 8, 1, 5]) (na := 9) (ls := [oR 0, oI 2, .val (.long (-4398044413953)), oS, oU, oU, oU, oU, oU]) (st := []) (me := [(2, (.array .int), 3, [vR 6, vR 7, vR 8]), (8, .int, 3, [vI 21, vI 21, vI 22]), (1, (.array .int), 3, [vR 3, vR 4, vR 5]), (5, .int, 3, [vI 21, vI 0, vI 42])]) (pc' := 73) (ls' := [oR 0, oI 2, .val (.long (-4398044413953)), oS, .val (.long 8796093022207), oS, oI 3, .val (.long 4194303), oS]) (st' := [.long 8796093022207]) (ups := []) tt hZ hown X0 N0 e0 (oA (ow93 hw) (oA (ow91 hw) trivial)) (oA (ow129 hw) trivial) (oA PF4 (oA PF3 trivial)) (oA PV30 (oA PV36 (oA PV22 (oA PV28 trivial)))) (Or.inl rfl) trivial rfl rfl (by decide +kernel) 132 (by decide +kernel) fun T8 h8 _ X8 N8 e8 K8 q8 M8 => ?_
  have e8 := e8.trans (q8 rfl)
  show own_Ends p e below s _ _ _ T8 (mkF m 73 #[oR b5, oI 2, .val (.long (-4398044413953 : Int64)), oS, .val (.long (8796093022207 : Int64)), oS, oI 3, .val (.long (4194303 : Int64)), oS] [(.long (8796093022207 : Int64))])
  refine own_ret X8 (v := some (.long (8796093022207 : Int64))) (oN Br) Bs (fun fs hr => own_retL X8 hx Br (hb hby d18_73) hr) ?_ (by decide) (by decide)
  unfold Q18a55
  exact ⟨rfl, N8, e8⟩
def Q1a29 (Z : State) (b3 : Addr) (h0 : Heap) (n0 : Nat) (v : Option Value) (h : Heap) (L : List Loc) : Prop := ∃ (b4 : Addr) (k4 : ClassId) (x4a : Addr) (kc4 : ClassId) (x4b : Addr) (x4c : Addr) (b5 : Addr) (k5 : ClassId) (x5a : Addr) (kc5 : ClassId) (x5b : Addr) (x5c : Addr) (b6 : Addr) (k6 : ClassId) (b7 : Addr) (k7 : ClassId) (b8 : Addr) (k8 : ClassId) (b9 : Addr) (k9 : ClassId) (b10 : Addr) (k10 : ClassId), v = none ∧ Fr n0 L ∧ Keep h0 h [b3] ∧ n0 ≤ b4 ∧ h0.size ≤ b4 ∧ n0 ≤ x4a ∧ h0.size ≤ x4a ∧ n0 ≤ x4b ∧ h0.size ≤ x4b ∧ n0 ≤ x4c ∧ h0.size ≤ x4c ∧ n0 ≤ b5 ∧ h0.size ≤ b5 ∧ n0 ≤ x5a ∧ h0.size ≤ x5a ∧ n0 ≤ x5b ∧ h0.size ≤ x5b ∧ n0 ≤ x5c ∧ h0.size ≤ x5c ∧ n0 ≤ b6 ∧ h0.size ≤ b6 ∧ n0 ≤ b7 ∧ h0.size ≤ b7 ∧ n0 ≤ b8 ∧ h0.size ≤ b8 ∧ n0 ≤ b9 ∧ h0.size ≤ b9 ∧ n0 ≤ b10 ∧ h0.size ≤ b10 ∧ x4a ≠ b4 ∧ x4b ≠ b4 ∧ x4b ≠ x4a ∧ x4c ≠ b4 ∧ x4c ≠ x4a ∧ x4c ≠ x4b ∧ b5 ≠ b4 ∧ b5 ≠ x4a ∧ b5 ≠ x4b ∧ b5 ≠ x4c ∧ x5a ≠ b4 ∧ x5a ≠ x4a ∧ x5a ≠ x4b ∧ x5a ≠ x4c ∧ x5a ≠ b5 ∧ x5b ≠ b4 ∧ x5b ≠ x4a ∧ x5b ≠ x4b ∧ x5b ≠ x4c ∧ x5b ≠ b5 ∧ x5b ≠ x5a ∧ x5c ≠ b4 ∧ x5c ≠ x4a ∧ x5c ≠ x4b ∧ x5c ≠ x4c ∧ x5c ≠ b5 ∧ x5c ≠ x5a ∧ x5c ≠ x5b ∧ b6 ≠ b4 ∧ b6 ≠ x4a ∧ b6 ≠ x4b ∧ b6 ≠ x4c ∧ b6 ≠ b5 ∧ b6 ≠ x5a ∧ b6 ≠ x5b ∧ b6 ≠ x5c ∧ b7 ≠ b4 ∧ b7 ≠ x4a ∧ b7 ≠ x4b ∧ b7 ≠ x4c ∧ b7 ≠ b5 ∧ b7 ≠ x5a ∧ b7 ≠ x5b ∧ b7 ≠ x5c ∧ b7 ≠ b6 ∧ b8 ≠ b4 ∧ b8 ≠ x4a ∧ b8 ≠ x4b ∧ b8 ≠ x4c ∧ b8 ≠ b5 ∧ b8 ≠ x5a ∧ b8 ≠ x5b ∧ b8 ≠ x5c ∧ b8 ≠ b6 ∧ b8 ≠ b7 ∧ b9 ≠ b4 ∧ b9 ≠ x4a ∧ b9 ≠ x4b ∧ b9 ≠ x4c ∧ b9 ≠ b5 ∧ b9 ≠ x5a ∧ b9 ≠ x5b ∧ b9 ≠ x5c ∧ b9 ≠ b6 ∧ b9 ≠ b7 ∧ b9 ≠ b8 ∧ b10 ≠ b4 ∧ b10 ≠ x4a ∧ b10 ≠ x4b ∧ b10 ≠ x4c ∧ b10 ≠ b5 ∧ b10 ≠ x5a ∧ b10 ≠ x5b ∧ b10 ≠ x5c ∧ b10 ≠ b6 ∧ b10 ≠ b7 ∧ b10 ≠ b8 ∧ b10 ≠ b9 ∧ oF3 Z h b3 (.ref b4) ∧ oF4 Z h b3 (.ref b5) ∧ oF5 Z h b3 (.ref b6) ∧ oF6 Z h b3 (.ref b7) ∧ Arv Z h b4 k4 (.array .int) (3 : Int32) [(.ref x4a), (.ref x4b), (.ref x4c)] .null ∧ OvrA Z k4 .int "[I" ∧ Exa Z h b4 "[[I" ∧ Arv Z h x4a kc4 .int (3 : Int32) [(.int (42 : Int32)), (.int (21 : Int32)), (.int (0 : Int32))] (.int (0 : Int32)) ∧ Exa Z h x4a "[I" ∧ Arv Z h x4b kc4 .int (3 : Int32) [(.int (42 : Int32)), (.int (0 : Int32)), (.int (21 : Int32))] (.int (0 : Int32)) ∧ Exa Z h x4b "[I" ∧ Arv Z h x4c kc4 .int (3 : Int32) [(.int (21 : Int32)), (.int (0 : Int32)), (.int (42 : Int32))] (.int (0 : Int32)) ∧ Exa Z h x4c "[I" ∧ Arv Z h b5 k5 (.array .int) (3 : Int32) [(.ref x5a), (.ref x5b), (.ref x5c)] .null ∧ OvrA Z k5 .int "[I" ∧ Exa Z h b5 "[[I" ∧ Arv Z h x5a kc5 .int (3 : Int32) [(.int (22 : Int32)), (.int (21 : Int32)), (.int (21 : Int32))] (.int (0 : Int32)) ∧ Exa Z h x5a "[I" ∧ Arv Z h x5b kc5 .int (3 : Int32) [(.int (22 : Int32)), (.int (21 : Int32)), (.int (21 : Int32))] (.int (0 : Int32)) ∧ Exa Z h x5b "[I" ∧ Arv Z h x5c kc5 .int (3 : Int32) [(.int (21 : Int32)), (.int (21 : Int32)), (.int (22 : Int32))] (.int (0 : Int32)) ∧ Exa Z h x5c "[I" ∧ Arv Z h b6 k6 .int (3 : Int32) [(.int (43 : Int32)), (.int (43 : Int32)), (.int (42 : Int32))] (.int (0 : Int32)) ∧ Exa Z h b6 "[I" ∧ Arv Z h b7 k7 (.array .long) (3 : Int32) [(.ref b8), (.ref b9), (.ref b10)] .null ∧ OvrA Z k7 .long "[J" ∧ Exa Z h b7 "[[J" ∧ Arv Z h b8 k8 .long (0 : Int32) [] (.long (0 : Int64)) ∧ Exa Z h b8 "[J" ∧ Arv Z h b9 k9 .long (1 : Int32) [(.long (-4398044413953 : Int64))] (.long (0 : Int64)) ∧ Exa Z h b9 "[J" ∧ Arv Z h b10 k10 .long (2 : Int32) [(.long (-8796088827905 : Int64)), (.long (8796093022207 : Int64))] (.long (0 : Int64)) ∧ Exa Z h b10 "[J"
set_option maxRecDepth 65536 in
set_option maxHeartbeats 40000000 in
theorem rm1a29 (l : Launch) (Z : State) (a0 : Array Value) (hw : HW a0 Z) (ws : List Jvm.Cond) (b12 : Addr) (wd : Addr) (kd : ClassId) (h0 : Heap) (n0 : Nat) (Z0 : n0 ≤ h0.size) (PS0 : Sta Z h0 "java/util/ArrayList" "DEFAULTCAPACITY_EMPTY_ELEMENTDATA" "[Ljava/lang/Object;" (.ref wd)) (PV1 : Arv Z h0 wd kd (.object "java/lang/Object") (0 : Int32) [] .null) (PE2 : Exa Z h0 b12 "com/example/libakin/libakin/simhash/Layout") (PF3 : oF3 Z h0 b12 .null) (PF4 : oF4 Z h0 b12 .null) (PF5 : oF5 Z h0 b12 .null) (PF6 : oF6 Z h0 b12 .null) (n_b12 : n0 ≤ b12) :
    own_Met l mn19 prog_28_method_1_code 13 none ws (oRm 8 26 73 123) #[(.ref b12), (.int (1 : Int32)), (.int (3 : Int32))] Z h0 (Q1a29 Z b12 h0 n0) := by
  refine own_met (own := "com/example/libakin/libakin/simhash/Layout") rfl (plainFor_of_name pn_0) ?_
  intro p e s m below meth c s₁ hx hby hml hZ hown hnm X0 e0 Br Bs
  have N0 := Fr.nil n0
  have tt := own_tt hx hby own_ok1
  show own_Ends p e below s _ _ _ s₁ (mkF m 0 #[oR b12, oI 1, oI 3, oU, oU, oU, oU, oU, oU, oU, oU, oU, oU] [])
  refine own_go (T' := s₁) (f' := (mkF m 1 #[oR b12, oI 1, oI 3, oU, oU, oU, oU, oU, oU, oU, oU, oU, oU] [vR b12])) (fun _ k => own_e X0 tt 0 1 k rfl) ?_
  obtain ⟨T13, X13, e13, st13⟩ := initO X0 hx hZ hown (ow6 hw) (ow7 hw) (ow8 hw) e0 (g := (mkF m 1 #[oR b12, oI 1, oI 3, oU, oU, oU, oU, oU, oU, oU, oU, oU, oU] [vR b12])) rfl (by rw [hml]; rfl) rfl (hb hby d1_1) (by decide) (W := 0) (by show 2 * 0 + _ ≤ _; exact Nat.le_of_eq rfl) (by decide)
  refine own_go (T' := T13) (f' := (mkF m 7 #[oR b12, oI 1, oI 3, oU, oU, oU, oU, oU, oU, oU, oU, oU, oU] [vI 4])) (fun _ k => st13 _ (own_e X13 tt 4 3 k rfl)) ?_
  obtain ⟨T14, h14, k14, X14, e14, E14, A14, EA14, st14⟩ := newPE (aty := .int) X13 hx hZ (ow9 hw) e13 (g := (mkF m 7 #[oR b12, oI 1, oI 3, oU, oU, oU, oU, oU, oU, oU, oU, oU, oU] [vI 4])) rfl (hb hby d1_7) rfl (by decide) (cap := 4) (by decide) (by decide) (by decide) (by decide) (ad := "[I") (by decide +kernel)
  obtain ⟨b14, g_b14⟩ : ∃ z, z = h0.size := ⟨_, rfl⟩
  have sg_b14 : h0.size ≤ b14 := Nat.le_of_eq g_b14.symm
  rw [← g_b14] at A14 EA14 st14
  have n_b14 := oT Z0 sg_b14
  have sz_b14 := oT (Keep.refl h0 [b12]).1 sg_b14
  have K14 : Keep h0 h14 [b12] := (Keep.refl h0 [b12]).ext E14
  have V_b14 : Arv Z h14 b14 k14 .int (4 : Int32) own_ls1 (.int (0 : Int32)) := (Arv.new A14 (by decide)).pad (pad_rep [] (.int (0 : Int32)) 4)
  refine own_go (T' := T14) (f' := (mkF m 9 #[oR b12, oI 1, oI 3, oU, oU, oU, oU, oU, oU, oU, oU, oU, oU] [vR b14])) (fun _ k => st14 _ k) ?_
  refine own_mrun2 (a0 := a0) (as := [b12, b14]) (kc := [0, k14]) (fl := []) (cl := []) (wl := []) (ks := [1]) (na := 2) (ls := [oR 0, oI 1, oI 3, oU, oU, oU, oU, oU, oU, oU, oU, oU, oU]) (st := [vR 1]) (me := [(1, .int, 4, [vI 0, vI 0, vI 0, vI 0])]) (pc' := 31) (ls' := [oR 0, oI 1, oI 3, oR 1, oI 0, oU, oU, oU, oU, oU, oU, oU, oU]) (st' := [vI 3, vI 64, vI 0, vI 1, vR 1]) (ups := []) tt hZ hown X14 N0 e14 trivial trivial trivial (oA V_b14 trivial) (Or.inl rfl) trivial rfl rfl (by decide +kernel) 15 (by decide +kernel) fun T15 h15 _ X15 N15 e15 K15 q15 M15 => ?_
  have e15 := e15.trans (q15 rfl)
  show own_Ends p e below s _ _ _ T15 (mkF m 31 #[oR b12, oI 1, oI 3, oR b14, oI 0, oU, oU, oU, oU, oU, oU, oU, oU] [vI 3, vI 64, vI 0, vI 1, vR b14])
  refine own_go (T' := T15) (f' := (mkF m 38 #[oR b12, oI 1, oI 3, oR b14, oI 0, oU, oU, oU, oU, oU, oU, oU, oU] [vI 3, vI 64, vI 0, vI 21, vI 1, vR b14])) (fun _ k => XS.idiv X15.here hx rfl (hb hby d1_31) rfl (by decide) (own_e X15 tt 32 4 k rfl)) ?_
  refine own_go (T' := T15) (f' := (mkF m 39 #[oR b12, oI 1, oI 3, oR b14, oI 0, oU, oU, oU, oU, oU, oU, oU, oU] [vI 1, vI 0, vI 21, vI 1, vR b14])) (fun _ k => iremM X15 hx rfl (hb hby d1_38) rfl (by decide) k) ?_
  have l16 : b12 < b14 := oW PE2.lt sz_b14
  refine own_mrun2 (a0 := a0) (as := [b12, b14]) (kc := [0, k14]) (fl := []) (cl := []) (wl := [1]) (ks := [1]) (na := 2) (ls := [oR 0, oI 1, oI 3, oR 1, oI 0, oU, oU, oU, oU, oU, oU, oU, oU]) (st := [vI 1, vI 0, vI 21, vI 1, vR 1]) (me := [(1, .int, 4, [vI 0, vI 0, vI 0, vI 0])]) (pc' := 31) (ls' := [oR 0, oI 1, oI 3, oR 1, oI 1, oU, oU, oU, oU, oU, oU, oU, oU]) (st' := [vI 3, vI 64, vI 22, vI 2, vR 1]) (ups := [(1, [vI 0, vI 22, vI 0, vI 0])]) tt hZ hown X15 N15 e15 trivial trivial trivial (oA V_b14 trivial) (Or.inr (oA l16 trivial)) (oA n_b14 trivial) rfl rfl (by decide +kernel) 19 (by decide +kernel) fun T17 h17 _ X17 N17 e17 K17 q17 M17 => ?_
  have Kq17 : Keep h14 h17 [b14] := K17
  have KK17 : Keep h0 h17 [b12] := Keep.trans K14 Kq17 (allS (Or.inr sz_b14) all0)
  obtain ⟨v17_0, -⟩ := M17
  have V17_0 : Arv Z h17 b14 k14 .int (4 : Int32) own_ls2 (.int (0 : Int32)) := v17_0
  show own_Ends p e below s _ _ _ T17 (mkF m 31 #[oR b12, oI 1, oI 3, oR b14, oI 1, oU, oU, oU, oU, oU, oU, oU, oU] [vI 3, vI 64, vI 22, vI 2, vR b14])
  refine own_go (T' := T17) (f' := (mkF m 38 #[oR b12, oI 1, oI 3, oR b14, oI 1, oU, oU, oU, oU, oU, oU, oU, oU] [vI 3, vI 64, vI 1, vI 43, vI 2, vR b14])) (fun _ k => XS.idiv X17.here hx rfl (hb hby d1_31) rfl (by decide) (own_e X17 tt 32 4 k rfl)) ?_
  refine own_go (T' := T17) (f' := (mkF m 39 #[oR b12, oI 1, oI 3, oR b14, oI 1, oU, oU, oU, oU, oU, oU, oU, oU] [vI 1, vI 1, vI 43, vI 2, vR b14])) (fun _ k => iremM X17 hx rfl (hb hby d1_38) rfl (by decide) k) ?_
  refine own_mrun2 (a0 := a0) (as := [b12, b14]) (kc := [0, k14]) (fl := []) (cl := []) (wl := [1]) (ks := [1]) (na := 2) (ls := [oR 0, oI 1, oI 3, oR 1, oI 1, oU, oU, oU, oU, oU, oU, oU, oU]) (st := [vI 1, vI 1, vI 43, vI 2, vR 1]) (me := [(1, .int, 4, [vI 0, vI 22, vI 0, vI 0])]) (pc' := 31) (ls' := [oR 0, oI 1, oI 3, oR 1, oI 2, oU, oU, oU, oU, oU, oU, oU, oU]) (st' := [vI 3, vI 64, vI 43, vI 3, vR 1]) (ups := [(1, [vI 0, vI 22, vI 43, vI 0])]) tt hZ hown X17 N17 e17 trivial trivial trivial (oA V17_0 trivial) (Or.inr (oA l16 trivial)) (oA n_b14 trivial) rfl rfl (by decide +kernel) 18 (by decide +kernel) fun T18 h18 _ X18 N18 e18 K18 q18 M18 => ?_
  have Kq18 : Keep h17 h18 [b14] := K18
  have KK18 : Keep h0 h18 [b12] := Keep.trans KK17 Kq18 (allS (Or.inr sz_b14) all0)
  obtain ⟨v18_0, -⟩ := M18
  have V18_0 : Arv Z h18 b14 k14 .int (4 : Int32) own_ls3 (.int (0 : Int32)) := v18_0
  show own_Ends p e below s _ _ _ T18 (mkF m 31 #[oR b12, oI 1, oI 3, oR b14, oI 2, oU, oU, oU, oU, oU, oU, oU, oU] [vI 3, vI 64, vI 43, vI 3, vR b14])
  refine own_go (T' := T18) (f' := (mkF m 38 #[oR b12, oI 1, oI 3, oR b14, oI 2, oU, oU, oU, oU, oU, oU, oU, oU] [vI 3, vI 64, vI 2, vI 64, vI 3, vR b14])) (fun _ k => XS.idiv X18.here hx rfl (hb hby d1_31) rfl (by decide) (own_e X18 tt 32 4 k rfl)) ?_
  refine own_go (T' := T18) (f' := (mkF m 39 #[oR b12, oI 1, oI 3, oR b14, oI 2, oU, oU, oU, oU, oU, oU, oU, oU] [vI 1, vI 2, vI 64, vI 3, vR b14])) (fun _ k => iremM X18 hx rfl (hb hby d1_38) rfl (by decide) k) ?_
  refine own_mrun2 (a0 := a0) (as := [b12, b14]) (kc := [0, k14]) (fl := []) (cl := []) (wl := [1]) (ks := [1]) (na := 2) (ls := [oR 0, oI 1, oI 3, oR 1, oI 2, oU, oU, oU, oU, oU, oU, oU, oU]) (st := [vI 1, vI 2, vI 64, vI 3, vR 1]) (me := [(1, .int, 4, [vI 0, vI 22, vI 43, vI 0])]) (pc' := 55) (ls' := [oR 0, oI 1, oI 3, oR 1, oI 3, oU, oU, oU, oU, oU, oU, oU, oU]) (st' := []) (ups := [(1, [vI 0, vI 22, vI 43, vI 64])]) tt hZ hown X18 N18 e18 trivial trivial trivial (oA V18_0 trivial) (Or.inr (oA l16 trivial)) (oA n_b14 trivial) rfl rfl (by decide +kernel) 9 (by decide +kernel) fun T19 h19 _ X19 N19 e19 K19 q19 M19 => ?_
  have Kq19 : Keep h18 h19 [b14] := K19
  have KK19 : Keep h0 h19 [b12] := Keep.trans KK18 Kq19 (allS (Or.inr sz_b14) all0)
  obtain ⟨v19_0, -⟩ := M19
  have V19_0 : Arv Z h19 b14 k14 .int (4 : Int32) own_ls4 (.int (0 : Int32)) := v19_0
  show own_Ends p e below s _ _ _ T19 (mkF m 55 #[oR b12, oI 1, oI 3, oR b14, oI 3, oU, oU, oU, oU, oU, oU, oU, oU] [])
  obtain ⟨T20, h20, X20, e20, E20, A20, D20, -, st20⟩ := newO X19 hx hZ hown (ow10 hw) (ow11 hw) (ow12 hw) e19 (g := (mkF m 55 #[oR b12, oI 1, oI 3, oR b14, oI 3, oU, oU, oU, oU, oU, oU, oU, oU] [])) rfl (hb hby d1_55) (by decide) (by decide)
  obtain ⟨b20, g_b20⟩ : ∃ z, z = h19.size := ⟨_, rfl⟩
  have sg_b20 : h19.size ≤ b20 := Nat.le_of_eq g_b20.symm
  rw [← g_b20] at A20 D20 st20
  have n_b20 := oT (oT (oT (oT (oT Z0 E14.1) Kq17.1) Kq18.1) Kq19.1) sg_b20
  have sz_b20 := oT KK19.1 sg_b20
  have u21 := (oW (oW (oW V_b14.lt Kq17.1) Kq18.1) Kq19.1)
  have m22 : h0.size ≤ h19.size := (oT (oT (oT (oT (Nat.le_refl _) E14.1) Kq17.1) Kq18.1) Kq19.1)
  have K20 : Keep h0 h20 [b12] := KK19.ext E20
  have F_modCount_b20 : oF0 Z h20 b20 (.int (0 : Int32)) := D20 (Or.inl (ow30 hw)) (ty := .int) (by decide)
  have F_elementData_b20 : oF1 Z h20 b20 .null := D20 (Or.inl (ow33 hw)) (ty := (.array (.object "java/lang/Object"))) (by decide)
  have F_size_b20 : oF2 Z h20 b20 (.int (0 : Int32)) := D20 (Or.inl (ow58 hw)) (ty := .int) (by decide)
  refine own_go (T' := T20) (f' := (mkF m 59 #[oR b12, oI 1, oI 3, oR b14, oI 3, oU, oU, oU, oU, oU, oU, oU, oU] [vR b20, vR b20])) (fun _ k => st20 _ (own_e X20 tt 58 1 k rfl)) ?_
  have G23 := ((own_sta_keep (own_sta_keep (own_sta_keep (PS0.ext E14) Kq17 (own_wsV V_b14 own_ws0)) Kq18 (own_wsV V17_0 own_ws0)) Kq19 (own_wsV V18_0 own_ws0)).ext E20)
  obtain ⟨_, T24, Lc24, X24, hQ24, st24⟩ := own_out (X20.specialBack hx (y := mn2) rfl hown (mvT hZ (ow13 hw)) (mvT hZ (ow14 hw)) (mvT hZ (ow15 hw)) (by decide) (backOf (W := 1) (rm3a2 l Z a0 hw [] b20 wd h20 n0 (oT (oT (oT (oT (oT Z0 E14.1) Kq17.1) Kq18.1) Kq19.1) E20.1) G23 A20 F_modCount_b20 F_elementData_b20 F_size_b20 n_b20) hZ (ow15 hw) (ow12 hw) (by decide) (by decide)) (g := (mkF m 59 #[oR b12, oI 1, oI 3, oR b14, oI 3, oU, oU, oU, oU, oU, oU, oU, oU] [vR b20, vR b20])) rfl (by rw [hml]; rfl) (Steps.refl _) (a := b20) (argsL := []) (rest := [(.ref b20)]) (lenOf pd2 rfl) rfl (by show 2 * 0 + _ ≤ _; exact Nat.le_of_eq rfl) (hb hby d1_59) (fun _ _ => ⟨rfl, e20, (by decide : 2 + 0 ≤ _), (by decide : 7 + 0 ≤ _)⟩))
  obtain ⟨rfl, N24q, K24, g24_0, g24_1, g24_2⟩ := hQ24
  have N24 := Fr.app N19 N24q
  have eK24 : T24.heap = T24.heap := rfl
  have KK24 : Keep h0 T24.heap [b12] := Keep.trans K20 K24 (allS (Or.inr sz_b20) all0)
  obtain ⟨_, X24, N24⟩ := own_hide X24 N24
  refine own_go (T' := T24) (f' := (mkF m 72 #[oR b12, oI 1, oI 3, oR b14, oR b20, oU, oU, oU, oU, oU, oU, oU, oU] [vI 2, vI 0, vI 2, vI 3])) (fun _ k => st24.trans (own_e X24 tt 62 9 k rfl)) ?_
  obtain ⟨T25, h25, k25, X25, e25, E25, A25, EA25, st25⟩ := newPE (aty := .int) X24 hx hZ (ow9 hw) eK24 (g := (mkF m 72 #[oR b12, oI 1, oI 3, oR b14, oR b20, oU, oU, oU, oU, oU, oU, oU, oU] [vI 2, vI 0, vI 2, vI 3])) rfl (hb hby d1_72) rfl (by decide) (cap := 2) (by decide) (by decide) (by decide) (by decide) (ad := "[I") (by decide +kernel)
  have Zs26 : n0 ≤ T24.heap.size := (oT (oT (oT (oT (oT (oT Z0 E14.1) Kq17.1) Kq18.1) Kq19.1) E20.1) K24.1)
  obtain ⟨b25, g_b25⟩ : ∃ z, z = T24.heap.size := ⟨_, rfl⟩
  have sg_b25 : T24.heap.size ≤ b25 := Nat.le_of_eq g_b25.symm
  rw [← g_b25] at A25 EA25 st25
  have n_b25 := oT Zs26 sg_b25
  have sz_b25 := oT KK24.1 sg_b25
  have u27 := (oW A20.lt K24.1)
  have m28 : h19.size ≤ T24.heap.size := (oT (oT (Nat.le_refl _) E20.1) K24.1)
  have K25 : Keep h0 h25 [b12] := KK24.ext E25
  have V_b25 : Arv Z h25 b25 k25 .int (2 : Int32) [(.int (0 : Int32)), (.int (0 : Int32))] (.int (0 : Int32)) := (Arv.new A25 (by decide)).pad (pad_rep [] (.int (0 : Int32)) 2)
  refine own_go (T' := T25) (f' := (mkF m 77 #[oR b12, oI 1, oI 3, oR b14, oR b20, oU, oU, oU, oU, oU, oU, oU, oU] [vR b20, vI 0, vR b25, vI 0, vI 2, vI 3])) (fun _ k => st25 _ (own_e X25 tt 74 2 k rfl)) ?_
  have G29 := (((((((PV1.ext E14).keep Kq17 (ninS (oL PV1.lt sz_b14) nin0)).keep Kq18 (ninS (oL PV1.lt sz_b14) nin0)).keep Kq19 (ninS (oL PV1.lt sz_b14) nin0)).ext E20).keep K24 (ninS (oL PV1.lt sz_b20) nin0)).ext E25)
  obtain ⟨_, T30, Lc30, X30, hQ30, st30⟩ := own_outC (Jvm.LawKit.callS X25 hx (y := mn9) hown (mvT hZ (ow34 hw)) (mvT hZ (ow35 hw)) (mvT hZ (ow2 hw)) (mvT hZ (ow36 hw)) (by decide) (backOf (W := 0) (rm6a30 l Z a0 hw [] b25 b20 wd kd k25 h25 n0 (oT Zs26 E25.1) ((own_sta_keep G23 K24 (own_wsE A20 own_ws0)).ext E25) G29 ((A20.keep K24).ext E25) (g24_0.ext E25) (g24_1.ext E25) (g24_2.ext E25) V_b25 EA25 (oL PV1.lt sz_b20) (oL PV1.lt sz_b25) (oL u27 sg_b25) (oM u27 sg_b25) n_b25 n_b20) hZ (ow36 hw) (ow2 hw) (by decide) (by decide)) (g := (mkF m 77 #[oR b12, oI 1, oI 3, oR b14, oR b20, oU, oU, oU, oU, oU, oU, oU, oU] [vR b20, vI 0, vR b25, vI 0, vI 2, vI 3])) rfl (by rw [hml]; rfl) (argsL := [(.int (3 : Int32)), (.int (2 : Int32)), (.int (0 : Int32)), (.ref b25), (.int (0 : Int32)), (.ref b20)]) (rest := []) (lenOf pd9 rfl) rfl (by show 2 * 0 + _ ≤ _; exact Nat.le_of_eq rfl) (hb hby d1_77) (fun _ _ => ⟨rfl, e25, (by decide : 3 + 4 ≤ _), (by decide : 9 + 16 ≤ _)⟩))
  obtain ⟨b30a, k30b, b30c, b30d, b30e, rfl, N30q, K30, n_b30a, sg_b30a, n_b30c, sg_b30c, n_b30d, sg_b30d, n_b30e, sg_b30e, ne30_0, ne30_1, ne30_2, ne30_3, ne30_4, ne30_5, g30_0, g30_1, g30_2, g30_3, g30_4, g30_5, g30_6, g30_7, g30_8, g30_9, g30_10, g30_11⟩ := hQ30
  have N30 := Fr.app N24 N30q
  have sz_b30a := oT K25.1 sg_b30a
  have sz_b30c := oT K25.1 sg_b30c
  have sz_b30d := oT K25.1 sg_b30d
  have sz_b30e := oT K25.1 sg_b30e
  have u31 : b25 < h25.size := V_b25.lt
  have m32 : T24.heap.size ≤ h25.size := (oT (Nat.le_refl _) E25.1)
  have eK30 : T30.heap = T30.heap := rfl
  have KK30 : Keep h0 T30.heap [b12] := Keep.trans K25 K30 (allS (Or.inr sz_b25) (allS (Or.inr sz_b20) all0))
  obtain ⟨_, X30, N30⟩ := own_hide X30 N30
  refine own_go (T' := T30) (f' := (mkF m 83 #[oR b12, oI 1, oI 3, oR b14, oR b20, oU, oU, oU, oU, oU, oU, oU, oU] [vR b20, vR b12])) (fun _ k => st30 _ (own_e X30 tt 80 2 k rfl)) ?_
  obtain ⟨cq33, kq33, q33a, q33b, q33c⟩ := isOf hZ eK30 (((A20.keep K24).ext E25).keep K30)
  obtain ⟨_, T33, Lc33, X33, hQ33, st33⟩ := own_out (X30.interfaceBack hx (xi := mn11) (y := mn10) hown (mvT hZ (ow81 hw)) (mvT hZ (ow82 hw)) (mvT hZ (ow83 hw)) (mvT hZ (ow84 hw)) (mvT hZ (ow85 hw)) (mvT hZ (ow86 hw)) (mvT hZ (ow87 hw)) (mvT hZ (ow53 hw)) (by decide) (backOf (W := 1) (rm12a38 l Z a0 hw [] b20 T30.heap n0 (oT (oT Zs26 E25.1) K30.1) g30_3) hZ (ow88 hw) (ow12 hw) (by decide) (by decide)) q33a q33b q33c (g := (mkF m 83 #[oR b12, oI 1, oI 3, oR b14, oR b20, oU, oU, oU, oU, oU, oU, oU, oU] [vR b20, vR b12])) rfl (by rw [hml]; rfl) (Steps.refl _) (argsL := []) (rest := [(.ref b12)]) (lenOf pd0 rfl) rfl (by show 2 * 0 + _ ≤ _; exact Nat.le_of_eq rfl) (hb hby d1_83) (fun _ _ => ⟨rfl, eK30, (by decide : 7 + 0 ≤ _), (by decide : 25 + 0 ≤ _)⟩))
  obtain ⟨rfl, N33q, hh33⟩ := hQ33
  have N33 := Fr.app N30 N33q
  obtain ⟨_, X33, N33⟩ := own_hide X33 N33
  refine own_go (T' := T33) (f' := (mkF m 89 #[oR b12, oI 1, oI 3, oR b14, oR b20, oU, oU, oU, oU, oU, oU, oU, oU] [vI 3, vI 3, vR b12])) (fun _ k => st33.trans (own_e X33 tt 88 1 k rfl)) ?_
  obtain ⟨T34, h34, k34, kc34, X34, e34, E34, A34, O34, EA34, I34, st34⟩ := gridM X33 hx hZ (C := "[I") (ad := "[[I") (ty := .int) hown (by decide +kernel) (by decide +kernel) (ow89 hw) (ow90 hw) (ow9 hw) hh33 (g := (mkF m 89 #[oR b12, oI 1, oI 3, oR b14, oR b20, oU, oU, oU, oU, oU, oU, oU, oU] [vI 3, vI 3, vR b12])) rfl (hb hby d1_89) rfl (by decide) (by decide) (N := 3) (by decide) rfl (cap := 3) (by decide) (by decide) (by decide) rfl rfl (by decide) (by decide)
  obtain ⟨b34, g_b34⟩ : ∃ z, z = T30.heap.size := ⟨_, rfl⟩
  obtain ⟨x34a, g_x34a⟩ : ∃ z, z = T30.heap.size + 1 + 0 := ⟨_, rfl⟩
  obtain ⟨x34b, g_x34b⟩ : ∃ z, z = T30.heap.size + 1 + 1 := ⟨_, rfl⟩
  obtain ⟨x34c, g_x34c⟩ : ∃ z, z = T30.heap.size + 1 + 2 := ⟨_, rfl⟩
  have sg_b34 : T30.heap.size ≤ b34 := by omega
  have n_b34 := oT (oT (oT Zs26 E25.1) K30.1) sg_b34
  have sz_b34 := oT KK30.1 sg_b34
  have sg_x34a : T30.heap.size ≤ x34a := by omega
  have n_x34a := oT (oT (oT Zs26 E25.1) K30.1) sg_x34a
  have sz_x34a := oT KK30.1 sg_x34a
  have sg_x34b : T30.heap.size ≤ x34b := by omega
  have n_x34b := oT (oT (oT Zs26 E25.1) K30.1) sg_x34b
  have sz_x34b := oT KK30.1 sg_x34b
  have sg_x34c : T30.heap.size ≤ x34c := by omega
  have n_x34c := oT (oT (oT Zs26 E25.1) K30.1) sg_x34c
  have sz_x34c := oT KK30.1 sg_x34c
  have u35 : b30a < T30.heap.size := g30_4.lt
  have u36 : b30c < T30.heap.size := g30_6.lt
  have u37 : b30d < T30.heap.size := g30_8.lt
  have u38 : b30e < T30.heap.size := g30_10.lt
  have m39 : h25.size ≤ T30.heap.size := (oT (Nat.le_refl _) K30.1)
  have nn_x34a_b34 : x34a ≠ b34 := by omega
  have nn_x34b_b34 : x34b ≠ b34 := by omega
  have nn_x34b_x34a : x34b ≠ x34a := by omega
  have nn_x34c_b34 : x34c ≠ b34 := by omega
  have nn_x34c_x34a : x34c ≠ x34a := by omega
  have nn_x34c_x34b : x34c ≠ x34b := by omega
  have K34 : Keep h0 h34 [b12] := KK30.ext E34
  have V_b34 : Arv Z h34 b34 k34 (.array .int) (3 : Int32) [(.ref x34a), (.ref x34b), (.ref x34c)] .null := by rw [g_b34, g_x34a, g_x34b, g_x34c]; exact A34
  have EE_b34 : Exa Z h34 b34 "[[I" := by rw [g_b34]; exact EA34
  have V_x34a : Arv Z h34 x34a kc34 .int (3 : Int32) [(.int (0 : Int32)), (.int (0 : Int32)), (.int (0 : Int32))] (.int (0 : Int32)) := by rw [g_x34a]; exact (Arv.new (I34 0 _ rfl).1 (by decide)).pad (pad_rep [] (.int (0 : Int32)) 3)
  have EE_x34a : Exa Z h34 x34a "[I" := by rw [g_x34a]; exact (I34 0 _ rfl).2
  have V_x34b : Arv Z h34 x34b kc34 .int (3 : Int32) [(.int (0 : Int32)), (.int (0 : Int32)), (.int (0 : Int32))] (.int (0 : Int32)) := by rw [g_x34b]; exact (Arv.new (I34 1 _ rfl).1 (by decide)).pad (pad_rep [] (.int (0 : Int32)) 3)
  have EE_x34b : Exa Z h34 x34b "[I" := by rw [g_x34b]; exact (I34 1 _ rfl).2
  have V_x34c : Arv Z h34 x34c kc34 .int (3 : Int32) [(.int (0 : Int32)), (.int (0 : Int32)), (.int (0 : Int32))] (.int (0 : Int32)) := by rw [g_x34c]; exact (Arv.new (I34 2 _ rfl).1 (by decide)).pad (pad_rep [] (.int (0 : Int32)) 3)
  have EE_x34c : Exa Z h34 x34c "[I" := by rw [g_x34c]; exact (I34 2 _ rfl).2
  rw [← g_b34] at st34
  refine own_go (T' := T34) (f' := (mkF m 93 #[oR b12, oI 1, oI 3, oR b14, oR b20, oU, oU, oU, oU, oU, oU, oU, oU] [vR b34, vR b12])) (fun _ k => st34 _ k) ?_
  have G40 := (((((((((PF3.ext E14).keep Kq17 (ninS (oL PE2.lt sz_b14) nin0)).keep Kq18 (ninS (oL PE2.lt sz_b14) nin0)).keep Kq19 (ninS (oL PE2.lt sz_b14) nin0)).ext E20).keep K24 (ninS (oL PE2.lt sz_b20) nin0)).ext E25).keep K30 (ninS (oL PE2.lt sz_b25) (ninS (oL PE2.lt sz_b20) nin0))).ext E34)
  obtain ⟨T41, h41, X41, e41, W41, st41⟩ := putF X34 hx hZ hown (host := "") (Or.inl (ow91 hw)) Via.refl e34 G40 (((((((((PE2.ext E14).keep Kq17).keep Kq18).keep Kq19).ext E20).keep K24).ext E25).keep K30).ext E34) (Or.inr ⟨(ow92 hw), rfl, hnm⟩) (ow1 hw) (ty := (.array (.array .int))) (by decide) rfl rfl (g := (mkF m 93 #[oR b12, oI 1, oI 3, oR b14, oR b20, oU, oU, oU, oU, oU, oU, oU, oU] [vR b34, vR b12])) rfl rfl (hb hby d1_93)
  have Fw41 := Fld.same W41 G40
  have K41 : Keep h0 h41 [b12] := K34.wr W41 (Or.inl (List.mem_of_getElem? (i := 0) rfl))
  have N41 := Fr.snoc X41 N33 n_b12
  refine own_go (T' := T41) (f' := (mkF m 99 #[oR b12, oI 1, oI 3, oR b14, oR b20, oU, oU, oU, oU, oU, oU, oU, oU] [vR b20, vR b12])) (fun _ k => st41 _ (own_e X41 tt 96 2 k rfl)) ?_
  obtain ⟨cq42, kq42, q42a, q42b, q42c⟩ := isOf hZ e41 (((((A20.keep K24).ext E25).keep K30).ext E34).wr W41)
  obtain ⟨_, T42, Lc42, X42, hQ42, st42⟩ := own_out (X41.interfaceBack hx (xi := mn11) (y := mn10) hown (mvT hZ (ow81 hw)) (mvT hZ (ow82 hw)) (mvT hZ (ow83 hw)) (mvT hZ (ow84 hw)) (mvT hZ (ow85 hw)) (mvT hZ (ow86 hw)) (mvT hZ (ow87 hw)) (mvT hZ (ow53 hw)) (by decide) (backOf (W := 1) (rm12a38 l Z a0 hw [] b20 h41 n0 (oT (oT (oT (oT Zs26 E25.1) K30.1) E34.1) (Keep.of_wr W41).1) ((g30_3.ext E34).other W41 (Or.inl (oM PE2.lt sz_b20)))) hZ (ow88 hw) (ow12 hw) (by decide) (by decide)) q42a q42b q42c (g := (mkF m 99 #[oR b12, oI 1, oI 3, oR b14, oR b20, oU, oU, oU, oU, oU, oU, oU, oU] [vR b20, vR b12])) rfl (by rw [hml]; rfl) (Steps.refl _) (argsL := []) (rest := [(.ref b12)]) (lenOf pd0 rfl) rfl (by show 2 * 0 + _ ≤ _; exact Nat.le_of_eq rfl) (hb hby d1_99) (fun _ _ => ⟨rfl, e41, (by decide : 11 + 0 ≤ _), (by decide : 37 + 0 ≤ _)⟩))
  obtain ⟨rfl, N42q, hh42⟩ := hQ42
  have N42 := Fr.app N41 N42q
  obtain ⟨_, X42, N42⟩ := own_hide X42 N42
  refine own_go (T' := T42) (f' := (mkF m 105 #[oR b12, oI 1, oI 3, oR b14, oR b20, oU, oU, oU, oU, oU, oU, oU, oU] [vI 3, vI 3, vR b12])) (fun _ k => st42.trans (own_e X42 tt 104 1 k rfl)) ?_
  obtain ⟨T43, h43, k43, kc43, X43, e43, E43, A43, O43, EA43, I43, st43⟩ := gridM X42 hx hZ (C := "[I") (ad := "[[I") (ty := .int) hown (by decide +kernel) (by decide +kernel) (ow89 hw) (ow90 hw) (ow9 hw) hh42 (g := (mkF m 105 #[oR b12, oI 1, oI 3, oR b14, oR b20, oU, oU, oU, oU, oU, oU, oU, oU] [vI 3, vI 3, vR b12])) rfl (hb hby d1_105) rfl (by decide) (by decide) (N := 3) (by decide) rfl (cap := 3) (by decide) (by decide) (by decide) rfl rfl (by decide) (by decide)
  obtain ⟨b43, g_b43⟩ : ∃ z, z = h41.size := ⟨_, rfl⟩
  obtain ⟨x43a, g_x43a⟩ : ∃ z, z = h41.size + 1 + 0 := ⟨_, rfl⟩
  obtain ⟨x43b, g_x43b⟩ : ∃ z, z = h41.size + 1 + 1 := ⟨_, rfl⟩
  obtain ⟨x43c, g_x43c⟩ : ∃ z, z = h41.size + 1 + 2 := ⟨_, rfl⟩
  have sg_b43 : h41.size ≤ b43 := by omega
  have n_b43 := oT (oT (oT (oT (oT Zs26 E25.1) K30.1) E34.1) (Keep.of_wr W41).1) sg_b43
  have sz_b43 := oT K41.1 sg_b43
  have sg_x43a : h41.size ≤ x43a := by omega
  have n_x43a := oT (oT (oT (oT (oT Zs26 E25.1) K30.1) E34.1) (Keep.of_wr W41).1) sg_x43a
  have sz_x43a := oT K41.1 sg_x43a
  have sg_x43b : h41.size ≤ x43b := by omega
  have n_x43b := oT (oT (oT (oT (oT Zs26 E25.1) K30.1) E34.1) (Keep.of_wr W41).1) sg_x43b
  have sz_x43b := oT K41.1 sg_x43b
  have sg_x43c : h41.size ≤ x43c := by omega
  have n_x43c := oT (oT (oT (oT (oT Zs26 E25.1) K30.1) E34.1) (Keep.of_wr W41).1) sg_x43c
  have sz_x43c := oT K41.1 sg_x43c
  have u44 := (oW V_b34.lt (Keep.of_wr W41).1)
  have u45 := (oW V_x34a.lt (Keep.of_wr W41).1)
  have u46 := (oW V_x34b.lt (Keep.of_wr W41).1)
  have u47 := (oW V_x34c.lt (Keep.of_wr W41).1)
  have m48 : T30.heap.size ≤ h41.size := (oT (oT (Nat.le_refl _) E34.1) (Keep.of_wr W41).1)
  have nn_x43a_b43 : x43a ≠ b43 := by omega
  have nn_x43b_b43 : x43b ≠ b43 := by omega
  have nn_x43b_x43a : x43b ≠ x43a := by omega
  have nn_x43c_b43 : x43c ≠ b43 := by omega
  have nn_x43c_x43a : x43c ≠ x43a := by omega
  have nn_x43c_x43b : x43c ≠ x43b := by omega
  have K43 : Keep h0 h43 [b12] := K41.ext E43
  have V_b43 : Arv Z h43 b43 k43 (.array .int) (3 : Int32) [(.ref x43a), (.ref x43b), (.ref x43c)] .null := by rw [g_b43, g_x43a, g_x43b, g_x43c]; exact A43
  have EE_b43 : Exa Z h43 b43 "[[I" := by rw [g_b43]; exact EA43
  have V_x43a : Arv Z h43 x43a kc43 .int (3 : Int32) [(.int (0 : Int32)), (.int (0 : Int32)), (.int (0 : Int32))] (.int (0 : Int32)) := by rw [g_x43a]; exact (Arv.new (I43 0 _ rfl).1 (by decide)).pad (pad_rep [] (.int (0 : Int32)) 3)
  have EE_x43a : Exa Z h43 x43a "[I" := by rw [g_x43a]; exact (I43 0 _ rfl).2
  have V_x43b : Arv Z h43 x43b kc43 .int (3 : Int32) [(.int (0 : Int32)), (.int (0 : Int32)), (.int (0 : Int32))] (.int (0 : Int32)) := by rw [g_x43b]; exact (Arv.new (I43 1 _ rfl).1 (by decide)).pad (pad_rep [] (.int (0 : Int32)) 3)
  have EE_x43b : Exa Z h43 x43b "[I" := by rw [g_x43b]; exact (I43 1 _ rfl).2
  have V_x43c : Arv Z h43 x43c kc43 .int (3 : Int32) [(.int (0 : Int32)), (.int (0 : Int32)), (.int (0 : Int32))] (.int (0 : Int32)) := by rw [g_x43c]; exact (Arv.new (I43 2 _ rfl).1 (by decide)).pad (pad_rep [] (.int (0 : Int32)) 3)
  have EE_x43c : Exa Z h43 x43c "[I" := by rw [g_x43c]; exact (I43 2 _ rfl).2
  rw [← g_b43] at st43
  refine own_go (T' := T43) (f' := (mkF m 109 #[oR b12, oI 1, oI 3, oR b14, oR b20, oU, oU, oU, oU, oU, oU, oU, oU] [vR b43, vR b12])) (fun _ k => st43 _ k) ?_
  have G49 := (((((((((((PE2.ext E14).keep Kq17).keep Kq18).keep Kq19).ext E20).keep K24).ext E25).keep K30).ext E34).wr W41).ext E43)
  have G50 := (((((((((((PF4.ext E14).keep Kq17 (ninS (oL PE2.lt sz_b14) nin0)).keep Kq18 (ninS (oL PE2.lt sz_b14) nin0)).keep Kq19 (ninS (oL PE2.lt sz_b14) nin0)).ext E20).keep K24 (ninS (oL PE2.lt sz_b20) nin0)).ext E25).keep K30 (ninS (oL PE2.lt sz_b25) (ninS (oL PE2.lt sz_b20) nin0))).ext E34).other W41 (Or.inr (sn_94_92 hw))).ext E43)
  obtain ⟨T51, h51, X51, e51, W51, st51⟩ := putF X43 hx hZ hown (host := "") (Or.inl (ow93 hw)) Via.refl e43 G50 G49 (Or.inr ⟨(ow94 hw), rfl, hnm⟩) (ow1 hw) (ty := (.array (.array .int))) (by decide) rfl rfl (g := (mkF m 109 #[oR b12, oI 1, oI 3, oR b14, oR b20, oU, oU, oU, oU, oU, oU, oU, oU] [vR b43, vR b12])) rfl rfl (hb hby d1_109)
  have Fw51 := Fld.same W51 G50
  have K51 : Keep h0 h51 [b12] := K43.wr W51 (Or.inl (List.mem_of_getElem? (i := 0) rfl))
  have N51 := Fr.snoc X51 N42 n_b12
  refine own_go (T' := T51) (f' := (mkF m 115 #[oR b12, oI 1, oI 3, oR b14, oR b20, oU, oU, oU, oU, oU, oU, oU, oU] [vR b20, vR b12])) (fun _ k => st51 _ (own_e X51 tt 112 2 k rfl)) ?_
  have Zs52 : n0 ≤ h51.size := (oT (oT (oT (oT (oT (oT Zs26 E25.1) K30.1) E34.1) (Keep.of_wr W41).1) E43.1) (Keep.of_wr W51).1)
  obtain ⟨cq53, kq53, q53a, q53b, q53c⟩ := isOf hZ e51 (((((((A20.keep K24).ext E25).keep K30).ext E34).wr W41).ext E43).wr W51)
  obtain ⟨_, T53, Lc53, X53, hQ53, st53⟩ := own_out (X51.interfaceBack hx (xi := mn11) (y := mn10) hown (mvT hZ (ow81 hw)) (mvT hZ (ow82 hw)) (mvT hZ (ow83 hw)) (mvT hZ (ow84 hw)) (mvT hZ (ow85 hw)) (mvT hZ (ow86 hw)) (mvT hZ (ow87 hw)) (mvT hZ (ow53 hw)) (by decide) (backOf (W := 1) (rm12a38 l Z a0 hw [] b20 h51 n0 Zs52 ((((g30_3.ext E34).other W41 (Or.inl (oM PE2.lt sz_b20))).ext E43).other W51 (Or.inl (oM PE2.lt sz_b20)))) hZ (ow88 hw) (ow12 hw) (by decide) (by decide)) q53a q53b q53c (g := (mkF m 115 #[oR b12, oI 1, oI 3, oR b14, oR b20, oU, oU, oU, oU, oU, oU, oU, oU] [vR b20, vR b12])) rfl (by rw [hml]; rfl) (Steps.refl _) (argsL := []) (rest := [(.ref b12)]) (lenOf pd0 rfl) rfl (by show 2 * 0 + _ ≤ _; exact Nat.le_of_eq rfl) (hb hby d1_115) (fun _ _ => ⟨rfl, e51, (by decide : 15 + 0 ≤ _), (by decide : 49 + 0 ≤ _)⟩))
  obtain ⟨rfl, N53q, hh53⟩ := hQ53
  have N53 := Fr.app N51 N53q
  obtain ⟨_, X53, N53⟩ := own_hide X53 N53
  refine own_go (T' := T53) (f' := (mkF m 120 #[oR b12, oI 1, oI 3, oR b14, oR b20, oU, oU, oU, oU, oU, oU, oU, oU] [vI 3, vR b12])) (fun _ k => st53.trans k) ?_
  obtain ⟨T54, h54, k54, X54, e54, E54, A54, EA54, st54⟩ := newPE (aty := .int) X53 hx hZ (ow9 hw) hh53 (g := (mkF m 120 #[oR b12, oI 1, oI 3, oR b14, oR b20, oU, oU, oU, oU, oU, oU, oU, oU] [vI 3, vR b12])) rfl (hb hby d1_120) rfl (by decide) (cap := 3) (by decide) (by decide) (by decide) (by decide) (ad := "[I") (by decide +kernel)
  obtain ⟨b54, g_b54⟩ : ∃ z, z = h51.size := ⟨_, rfl⟩
  have sg_b54 : h51.size ≤ b54 := Nat.le_of_eq g_b54.symm
  rw [← g_b54] at A54 EA54 st54
  have n_b54 := oT Zs52 sg_b54
  have sz_b54 := oT K51.1 sg_b54
  have u55 := (oW V_b43.lt (Keep.of_wr W51).1)
  have u56 := (oW V_x43a.lt (Keep.of_wr W51).1)
  have u57 := (oW V_x43b.lt (Keep.of_wr W51).1)
  have u58 := (oW V_x43c.lt (Keep.of_wr W51).1)
  have m59 : h41.size ≤ h51.size := (oT (oT (Nat.le_refl _) E43.1) (Keep.of_wr W51).1)
  have K54 : Keep h0 h54 [b12] := K51.ext E54
  have V_b54 : Arv Z h54 b54 k54 .int (3 : Int32) [(.int (0 : Int32)), (.int (0 : Int32)), (.int (0 : Int32))] (.int (0 : Int32)) := (Arv.new A54 (by decide)).pad (pad_rep [] (.int (0 : Int32)) 3)
  refine own_go (T' := T54) (f' := (mkF m 122 #[oR b12, oI 1, oI 3, oR b14, oR b20, oU, oU, oU, oU, oU, oU, oU, oU] [vR b54, vR b12])) (fun _ k => st54 _ k) ?_
  have G60 := (((((((((((((PF5.ext E14).keep Kq17 (ninS (oL PE2.lt sz_b14) nin0)).keep Kq18 (ninS (oL PE2.lt sz_b14) nin0)).keep Kq19 (ninS (oL PE2.lt sz_b14) nin0)).ext E20).keep K24 (ninS (oL PE2.lt sz_b20) nin0)).ext E25).keep K30 (ninS (oL PE2.lt sz_b25) (ninS (oL PE2.lt sz_b20) nin0))).ext E34).other W41 (Or.inr (sn_96_92 hw))).ext E43).other W51 (Or.inr (sn_96_94 hw))).ext E54)
  obtain ⟨T61, h61, X61, e61, W61, st61⟩ := putF X54 hx hZ hown (host := "") (Or.inl (ow95 hw)) Via.refl e54 G60 ((G49.wr W51).ext E54) (Or.inr ⟨(ow96 hw), rfl, hnm⟩) (ow1 hw) (ty := (.array .int)) (by decide) rfl rfl (g := (mkF m 122 #[oR b12, oI 1, oI 3, oR b14, oR b20, oU, oU, oU, oU, oU, oU, oU, oU] [vR b54, vR b12])) rfl rfl (hb hby d1_122)
  have Fw61 := Fld.same W61 G60
  have K61 : Keep h0 h61 [b12] := K54.wr W61 (Or.inl (List.mem_of_getElem? (i := 0) rfl))
  have N61 := Fr.snoc X61 N53 n_b12
  refine own_go (T' := T61) (f' := (mkF m 132 #[oR b12, oI 1, oI 3, oR b14, oR b20, oI 0, oU, oU, oU, oU, oU, oU, oU] [vR b20, vI 0])) (fun _ k => st61 _ (own_e X61 tt 125 4 k rfl)) ?_
  have G62 := ((((((g30_3.ext E34).other W41 (Or.inl (oM PE2.lt sz_b20))).ext E43).other W51 (Or.inl (oM PE2.lt sz_b20))).ext E54).other W61 (Or.inl (oM PE2.lt sz_b20)))
  obtain ⟨cq63, kq63, q63a, q63b, q63c⟩ := isOf hZ e61 (((((((((A20.keep K24).ext E25).keep K30).ext E34).wr W41).ext E43).wr W51).ext E54).wr W61)
  obtain ⟨_, T63, Lc63, X63, hQ63, st63⟩ := own_out (X61.interfaceBack hx (xi := mn11) (y := mn10) hown (mvT hZ (ow81 hw)) (mvT hZ (ow82 hw)) (mvT hZ (ow83 hw)) (mvT hZ (ow84 hw)) (mvT hZ (ow85 hw)) (mvT hZ (ow86 hw)) (mvT hZ (ow87 hw)) (mvT hZ (ow53 hw)) (by decide) (backOf (W := 1) (rm12a38 l Z a0 hw [] b20 h61 n0 (oT (oT Zs52 E54.1) (Keep.of_wr W61).1) G62) hZ (ow88 hw) (ow12 hw) (by decide) (by decide)) q63a q63b q63c (g := (mkF m 132 #[oR b12, oI 1, oI 3, oR b14, oR b20, oI 0, oU, oU, oU, oU, oU, oU, oU] [vR b20, vI 0])) rfl (by rw [hml]; rfl) (Steps.refl _) (argsL := []) (rest := [(.int (0 : Int32))]) (lenOf pd0 rfl) rfl (by show 2 * 0 + _ ≤ _; exact Nat.le_of_eq rfl) (hb hby d1_132) (fun _ _ => ⟨rfl, e61, (by decide : 16 + 0 ≤ _), (by decide : 52 + 0 ≤ _)⟩))
  obtain ⟨rfl, N63q, hh63⟩ := hQ63
  have N63 := Fr.app N61 N63q
  obtain ⟨_, X63, N63⟩ := own_hide X63 N63
  refine own_go (T' := T63) (f' := (mkF m 141 #[oR b12, oI 1, oI 3, oR b14, oR b20, oI 0, oU, oU, oU, oU, oU, oU, oU] [vI 3])) (fun _ k => st63.trans (own_e X63 tt 137 2 k rfl)) ?_
  obtain ⟨T64, h64, k64, X64, e64, E64, A64, EA64, st64⟩ := newPE (aty := .boolean) X63 hx hZ (ow97 hw) hh63 (g := (mkF m 141 #[oR b12, oI 1, oI 3, oR b14, oR b20, oI 0, oU, oU, oU, oU, oU, oU, oU] [vI 3])) rfl (hb hby d1_141) rfl (by decide) (cap := 3) (by decide) (by decide) (by decide) (by decide) (ad := "[Z") (by decide +kernel)
  obtain ⟨b64, g_b64⟩ : ∃ z, z = h61.size := ⟨_, rfl⟩
  have sg_b64 : h61.size ≤ b64 := Nat.le_of_eq g_b64.symm
  rw [← g_b64] at A64 EA64 st64
  have n_b64 := oT (oT (oT Zs52 E54.1) (Keep.of_wr W61).1) sg_b64
  have sz_b64 := oT K61.1 sg_b64
  have u65 := (oW V_b54.lt (Keep.of_wr W61).1)
  have m66 : h51.size ≤ h61.size := (oT (oT (Nat.le_refl _) E54.1) (Keep.of_wr W61).1)
  have K64 : Keep h0 h64 [b12] := K61.ext E64
  have V_b64 : Arv Z h64 b64 k64 .boolean (3 : Int32) [(.int (0 : Int32)), (.int (0 : Int32)), (.int (0 : Int32))] (.int (0 : Int32)) := (Arv.new A64 (by decide)).pad (pad_rep [] (.int (0 : Int32)) 3)
  refine own_go (T' := T64) (f' := (mkF m 149 #[oR b12, oI 1, oI 3, oR b14, oR b20, oI 0, oR b64, oU, oU, oU, oU, oU, oU] [vI 0, vR b20])) (fun _ k => st64 _ (own_e X64 tt 143 3 k rfl)) ?_
  have G67 := (((((((g30_2.ext E34).other W41 (Or.inl (oM PE2.lt sz_b20))).ext E43).other W51 (Or.inl (oM PE2.lt sz_b20))).ext E54).other W61 (Or.inl (oM PE2.lt sz_b20))).ext E64)
  have G68 := (((((((g30_4.ext E34).other W41 (oM PE2.lt sz_b30a)).ext E43).other W51 (oM PE2.lt sz_b30a)).ext E54).other W61 (oM PE2.lt sz_b30a)).ext E64)
  obtain ⟨cq69, kq69, q69a, q69b, q69c⟩ := isOf hZ e64 ((((((((((A20.keep K24).ext E25).keep K30).ext E34).wr W41).ext E43).wr W51).ext E54).wr W61).ext E64)
  obtain ⟨_, T69, Lc69, X69, hQ69, st69⟩ := own_out (X64.interfaceBack hx (xi := mn16) (y := mn15) hown (mvT hZ (ow98 hw)) (mvT hZ (ow99 hw)) (mvT hZ (ow100 hw)) (mvT hZ (ow101 hw)) (mvT hZ (ow102 hw)) (mvT hZ (ow103 hw)) (mvT hZ (ow104 hw)) (mvT hZ (ow53 hw)) (by decide) (backOf (W := 0) (rm13a39 l Z a0 hw [] b20 b30a k30b b30c b30d b30e h64 n0 (oT (oT (oT Zs52 E54.1) (Keep.of_wr W61).1) E64.1) ((((((((((A20.keep K24).ext E25).keep K30).ext E34).wr W41).ext E43).wr W51).ext E54).wr W61).ext E64) G67 (G62.ext E64) G68) hZ (ow105 hw) (ow12 hw) (by decide) (by decide)) q69a q69b q69c (g := (mkF m 149 #[oR b12, oI 1, oI 3, oR b14, oR b20, oI 0, oR b64, oU, oU, oU, oU, oU, oU] [vI 0, vR b20])) rfl (by rw [hml]; rfl) (Steps.refl _) (argsL := [(.int (0 : Int32))]) (rest := []) (lenOf pd5 rfl) rfl (by show 2 * 0 + _ ≤ _; exact Nat.le_of_eq rfl) (hb hby d1_149) (fun _ _ => ⟨rfl, e64, (by decide : 17 + 0 ≤ _), (by decide : 55 + 0 ≤ _)⟩))
  obtain ⟨rfl, N69q, hh69⟩ := hQ69
  have N69 := Fr.app N63 N69q
  obtain ⟨_, X69, N69⟩ := own_hide X69 N69
  refine own_go (T' := T69) (f' := (mkF m 154 #[oR b12, oI 1, oI 3, oR b14, oR b20, oI 0, oR b64, oU, oU, oU, oU, oU, oU] [vR b30c])) (fun _ k => st69.trans k) ?_
  obtain ⟨T70, X70, e70, st70⟩ := castY X69 hx hZ hown (ow44 hw) hh69 (Ins.self (((((((g30_7.ext E34).wr W41).ext E43).wr W51).ext E54).wr W61).ext E64)) (g := (mkF m 154 #[oR b12, oI 1, oI 3, oR b14, oR b20, oI 0, oR b64, oU, oU, oU, oU, oU, oU] [vR b30c])) rfl rfl (hb hby d1_154)
  refine own_go (T' := T70) (f' := (mkF m 157 #[oR b12, oI 1, oI 3, oR b14, oR b20, oI 0, oR b64, oU, oU, oU, oU, oU, oU] [vR b30c])) (fun _ k => st70 _ k) ?_
  have G71 := (((((((g30_6.ext E34).other W41 (oM PE2.lt sz_b30c)).ext E43).other W51 (oM PE2.lt sz_b30c)).ext E54).other W61 (oM PE2.lt sz_b30c)).ext E64)
  have l72 : b14 < b20 := oW u21 sg_b20
  have l73 : b20 < b30c := oW u27 (oT m32 sg_b30c)
  have c74 := oT m48 m59
  have c75 := oT c74 m66
  have l76 : b30c < b64 := oW u36 (oT c75 sg_b64)
  refine own_mrun2 (a0 := a0) (as := [b12, b14, b20, b30c, b64]) (kc := [0, 0, 0, k25, k64]) (fl := []) (cl := []) (wl := [4]) (ks := [3, 4]) (na := 5) (ls := [oR 0, oI 1, oI 3, oR 1, oR 2, oI 0, oR 4, oU, oU, oU, oU, oU, oU]) (st := [vR 3]) (me := [(3, .int, 2, [vI 0, vI 1]), (4, .boolean, 3, [vI 0, vI 0, vI 0])]) (pc' := 197) (ls' := [oR 0, oI 1, oI 3, oR 1, oR 2, oI 0, oR 4, oI 0, oI 2, oI 2, oI 1, oU, oU]) (st' := [vI 2]) (ups := [(4, [vI 1, vI 1, vI 0])]) tt hZ hown X70 N69 e70 trivial trivial trivial (oA G71 (oA V_b64 trivial)) (Or.inr (oA l16 (oA l72 (oA l73 (oA l76 trivial))))) (oA n_b64 trivial) rfl rfl (by decide +kernel) 38 (by decide +kernel) fun T77 h77 _ X77 N77 e77 K77 q77 M77 => ?_
  have Kq77 : Keep h64 h77 [b64] := K77
  have KK77 : Keep h0 h77 [b12] := Keep.trans K64 Kq77 (allS (Or.inr sz_b64) all0)
  obtain ⟨-, v77_1, -⟩ := M77
  have V77_1 : Arv Z h77 b64 k64 .boolean (3 : Int32) [(.int (1 : Int32)), (.int (1 : Int32)), (.int (0 : Int32))] (.int (0 : Int32)) := v77_1
  show own_Ends p e below s _ _ _ T77 (mkF m 197 #[oR b12, oI 1, oI 3, oR b14, oR b20, oI 0, oR b64, oI 0, oI 2, oI 2, oI 1, oU, oU] [vI 2])
  obtain ⟨T78, h78, k78, X78, e78, E78, A78, EA78, st78⟩ := newPE (aty := .boolean) X77 hx hZ (ow97 hw) e77 (g := (mkF m 197 #[oR b12, oI 1, oI 3, oR b14, oR b20, oI 0, oR b64, oI 0, oI 2, oI 2, oI 1, oU, oU] [vI 2])) rfl (hb hby d1_197) rfl (by decide) (cap := 2) (by decide) (by decide) (by decide) (by decide) (ad := "[Z") (by decide +kernel)
  obtain ⟨b78, g_b78⟩ : ∃ z, z = h77.size := ⟨_, rfl⟩
  have sg_b78 : h77.size ≤ b78 := Nat.le_of_eq g_b78.symm
  rw [← g_b78] at A78 EA78 st78
  have n_b78 := oT (oT (oT (oT (oT Zs52 E54.1) (Keep.of_wr W61).1) E64.1) Kq77.1) sg_b78
  have sz_b78 := oT KK77.1 sg_b78
  have u79 := (oW V_b64.lt Kq77.1)
  have m80 : h61.size ≤ h77.size := (oT (oT (Nat.le_refl _) E64.1) Kq77.1)
  have K78 : Keep h0 h78 [b12] := KK77.ext E78
  have V_b78 : Arv Z h78 b78 k78 .boolean (2 : Int32) [(.int (0 : Int32)), (.int (0 : Int32))] (.int (0 : Int32)) := (Arv.new A78 (by decide)).pad (pad_rep [] (.int (0 : Int32)) 2)
  refine own_go (T' := T78) (f' := (mkF m 199 #[oR b12, oI 1, oI 3, oR b14, oR b20, oI 0, oR b64, oI 0, oI 2, oI 2, oI 1, oU, oU] [vR b78])) (fun _ k => st78 _ k) ?_
  have c81 := oT m59 m66
  have q82 := oL u44 (oT c81 sg_b64)
  have G83 := ((((((((V_b34.other W41 (oM PE2.lt sz_b34)).ext E43).other W51 (oM PE2.lt sz_b34)).ext E54).other W61 (oM PE2.lt sz_b34)).ext E64).keep Kq77 (ninS q82 nin0)).ext E78)
  have q84 := oL u21 (oT m28 sg_b25)
  have c85 := oT m28 m32
  have c86 := oT c85 m39
  have c87 := oT c86 m48
  have c88 := oT c87 m59
  have c89 := oT c88 m66
  have q90 := oL u21 (oT c89 sg_b64)
  have G91 := (((((((((((((V19_0.ext E20).keep K24 (ninS (oL u21 sg_b20) nin0)).ext E25).keep K30 (ninS q84 (ninS (oL u21 sg_b20) nin0))).ext E34).other W41 (oM PE2.lt sz_b14)).ext E43).other W51 (oM PE2.lt sz_b14)).ext E54).other W61 (oM PE2.lt sz_b14)).ext E64).keep Kq77 (ninS q90 nin0)).ext E78)
  have q92 := oL u45 (oT c81 sg_b64)
  have G93 := ((((((((V_x34a.other W41 (oM PE2.lt sz_x34a)).ext E43).other W51 (oM PE2.lt sz_x34a)).ext E54).other W61 (oM PE2.lt sz_x34a)).ext E64).keep Kq77 (ninS q92 nin0)).ext E78)
  have q94 := oL u55 (oT m66 sg_b64)
  have G95 := ((((((V_b43.other W51 (oM PE2.lt sz_b43)).ext E54).other W61 (oM PE2.lt sz_b43)).ext E64).keep Kq77 (ninS q94 nin0)).ext E78)
  have q96 := oL u56 (oT m66 sg_b64)
  have G97 := ((((((V_x43a.other W51 (oM PE2.lt sz_x43a)).ext E54).other W61 (oM PE2.lt sz_x43a)).ext E64).keep Kq77 (ninS q96 nin0)).ext E78)
  have G98 := (((((((Fw41.ext E43).other W51 (Or.inr (sn_92_94 hw))).ext E54).other W61 (Or.inr (sn_92_96 hw))).ext E64).keep Kq77 (ninS (oL PE2.lt sz_b64) nin0)).ext E78)
  have c99 := oT m32 m39
  have l100 : b20 < b34 := oW u27 (oT c99 sg_b34)
  have l101 : b34 < x34a := by omega
  have l102 : x34a < x34b := by omega
  have l103 : x34b < x34c := by omega
  have l104 : x34c < b43 := oW u47 sg_b43
  have l105 : b43 < x43a := by omega
  have l106 : x43a < x43b := by omega
  have l107 : x43b < x43c := by omega
  have l108 : x43c < b54 := oW u58 sg_b54
  have l109 : b54 < b64 := oW u65 sg_b64
  have l110 : b64 < b78 := oW u79 sg_b78
  refine own_mrun2 (a0 := a0) (as := [b12, b14, b20, b34, x34a, x34b, x34c, b43, x43a, x43b, x43c, b54, b64, b78]) (kc := [0, k14, 0, k34, kc34, 0, 0, k43, kc43, 0, 0, k54, k64, k78]) (fl := [fE1_26 0 (vR 3), fE1_29 0 (vR 7), fE1_32 0 (vR 11)]) (cl := []) (wl := [13, 4, 8, 11]) (ks := [13, 12, 3, 1, 4, 7, 8, 11]) (na := 14) (ls := [oR 0, oI 1, oI 3, oR 1, oR 2, oI 0, oR 12, oI 0, oI 2, oI 2, oI 1, oU, oU]) (st := [vR 13]) (me := [(13, .boolean, 2, [vI 0, vI 0]), (12, .boolean, 3, [vI 1, vI 1, vI 0]), (3, (.array .int), 3, [vR 4, vR 5, vR 6]), (1, .int, 4, [vI 0, vI 22, vI 43, vI 64]), (4, .int, 3, [vI 0, vI 0, vI 0]), (7, (.array .int), 3, [vR 8, vR 9, vR 10]), (8, .int, 3, [vI 0, vI 0, vI 0]), (11, .int, 3, [vI 0, vI 0, vI 0])]) (pc' := 132) (ls' := [oR 0, oI 1, oI 3, oR 1, oR 2, oI 1, oR 12, oI 3, oR 13, oI 2, oI 2, oI 0, oI 3]) (st' := [vR 2, vI 1]) (ups := [(13, [vI 1, vI 0]), (4, [vI 42, vI 21, vI 0]), (8, [vI 22, vI 21, vI 21]), (11, [vI 43, vI 0, vI 0])]) tt hZ hown X78 N77 e78 (oA (ow91 hw) (oA (ow93 hw) (oA (ow95 hw) trivial))) trivial (oA G98 (oA (((((Fw51.ext E54).other W61 (Or.inr (sn_94_96 hw))).ext E64).keep Kq77 (ninS (oL PE2.lt sz_b64) nin0)).ext E78) (oA (((Fw61.ext E64).keep Kq77 (ninS (oL PE2.lt sz_b64) nin0)).ext E78) trivial))) (oA V_b78 (oA (V77_1.ext E78) (oA G83 (oA G91 (oA G93 (oA G95 (oA G97 (oA ((((V_b54.other W61 (oM PE2.lt sz_b54)).ext E64).keep Kq77 (ninS (oL u65 sg_b64) nin0)).ext E78) trivial)))))))) (Or.inr (oA l16 (oA l72 (oA l100 (oA l101 (oA l102 (oA l103 (oA l104 (oA l105 (oA l106 (oA l107 (oA l108 (oA l109 (oA l110 trivial)))))))))))))) (oA n_b78 (oA n_x34a (oA n_x43a (oA n_b54 trivial)))) rfl rfl (by decide +kernel) 238 (by decide +kernel) fun T111 h111 _ X111 N111 e111 K111 q111 M111 => ?_
  have Kq111 : Keep h78 h111 [b78, x34a, x43a, b54] := K111
  have KK111 : Keep h0 h111 [b12] := Keep.trans K78 Kq111 (allS (Or.inr sz_b78) (allS (Or.inr sz_x34a) (allS (Or.inr sz_x43a) (allS (Or.inr sz_b54) all0))))
  obtain ⟨v111_0, -, -, -, v111_4, -, v111_6, v111_7, -⟩ := M111
  have V111_0 : Arv Z h111 b78 k78 .boolean (2 : Int32) [(.int (1 : Int32)), (.int (0 : Int32))] (.int (0 : Int32)) := v111_0
  have V111_4 : Arv Z h111 x34a kc34 .int (3 : Int32) [(.int (42 : Int32)), (.int (21 : Int32)), (.int (0 : Int32))] (.int (0 : Int32)) := v111_4
  have V111_6 : Arv Z h111 x43a kc43 .int (3 : Int32) [(.int (22 : Int32)), (.int (21 : Int32)), (.int (21 : Int32))] (.int (0 : Int32)) := v111_6
  have V111_7 : Arv Z h111 b54 k54 .int (3 : Int32) [(.int (43 : Int32)), (.int (0 : Int32)), (.int (0 : Int32))] (.int (0 : Int32)) := v111_7
  show own_Ends p e below s _ _ _ T111 (mkF m 132 #[oR b12, oI 1, oI 3, oR b14, oR b20, oI 1, oR b64, oI 3, oR b78, oI 2, oI 2, oI 0, oI 3] [vR b20, vI 1])
  have c112 := oT c99 m48
  have c113 := oT c112 m59
  have c114 := oT c113 m66
  have q115 := oL u27 (oT c114 sg_b64)
  have q116 := oL u27 (oT c113 sg_b54)
  have q117 := oL u27 (oT c112 sg_x43a)
  have q118 := oL u27 (oT c99 sg_x34a)
  have c119 := oT c114 m80
  have q120 := oL u27 (oT c119 sg_b78)
  have G121 := ((((G62.ext E64).keep Kq77 (ninS q115 nin0)).ext E78).keep Kq111 (ninS q120 (ninS q118 (ninS q117 (ninS q116 nin0)))))
  have Zs122 : n0 ≤ h111.size := (oT (oT (oT (oT (oT (oT Zs52 E54.1) (Keep.of_wr W61).1) E64.1) Kq77.1) E78.1) Kq111.1)
  have G123 := (((((((((((((A20.keep K24).ext E25).keep K30).ext E34).wr W41).ext E43).wr W51).ext E54).wr W61).ext E64).keep Kq77).ext E78).keep Kq111)
  obtain ⟨cq124, kq124, q124a, q124b, q124c⟩ := isOf hZ e111 G123
  obtain ⟨_, T124, Lc124, X124, hQ124, st124⟩ := own_out (X111.interfaceBack hx (xi := mn11) (y := mn10) hown (mvT hZ (ow81 hw)) (mvT hZ (ow82 hw)) (mvT hZ (ow83 hw)) (mvT hZ (ow84 hw)) (mvT hZ (ow85 hw)) (mvT hZ (ow86 hw)) (mvT hZ (ow87 hw)) (mvT hZ (ow53 hw)) (by decide) (backOf (W := 1) (rm12a38 l Z a0 hw [] b20 h111 n0 Zs122 G121) hZ (ow88 hw) (ow12 hw) (by decide) (by decide)) q124a q124b q124c (g := (mkF m 132 #[oR b12, oI 1, oI 3, oR b14, oR b20, oI 1, oR b64, oI 3, oR b78, oI 2, oI 2, oI 0, oI 3] [vR b20, vI 1])) rfl (by rw [hml]; rfl) (Steps.refl _) (argsL := []) (rest := [(.int (1 : Int32))]) (lenOf pd0 rfl) rfl (by show 2 * 0 + _ ≤ _; exact Nat.le_of_eq rfl) (hb hby d1_132) (fun _ _ => ⟨rfl, e111, (by decide : 18 + 0 ≤ _), (by decide : 57 + 0 ≤ _)⟩))
  obtain ⟨rfl, N124q, hh124⟩ := hQ124
  have N124 := Fr.app N111 N124q
  obtain ⟨_, X124, N124⟩ := own_hide X124 N124
  refine own_go (T' := T124) (f' := (mkF m 141 #[oR b12, oI 1, oI 3, oR b14, oR b20, oI 1, oR b64, oI 3, oR b78, oI 2, oI 2, oI 0, oI 3] [vI 3])) (fun _ k => st124.trans (own_e X124 tt 137 2 k rfl)) ?_
  obtain ⟨T125, h125, k125, X125, e125, E125, A125, EA125, st125⟩ := newPE (aty := .boolean) X124 hx hZ (ow97 hw) hh124 (g := (mkF m 141 #[oR b12, oI 1, oI 3, oR b14, oR b20, oI 1, oR b64, oI 3, oR b78, oI 2, oI 2, oI 0, oI 3] [vI 3])) rfl (hb hby d1_141) rfl (by decide) (cap := 3) (by decide) (by decide) (by decide) (by decide) (ad := "[Z") (by decide +kernel)
  obtain ⟨b125, g_b125⟩ : ∃ z, z = h111.size := ⟨_, rfl⟩
  have sg_b125 : h111.size ≤ b125 := Nat.le_of_eq g_b125.symm
  rw [← g_b125] at A125 EA125 st125
  have n_b125 := oT Zs122 sg_b125
  have sz_b125 := oT KK111.1 sg_b125
  have u126 := (oW V_b78.lt Kq111.1)
  have m127 : h77.size ≤ h111.size := (oT (oT (Nat.le_refl _) E78.1) Kq111.1)
  have K125 : Keep h0 h125 [b12] := KK111.ext E125
  have V_b125 : Arv Z h125 b125 k125 .boolean (3 : Int32) [(.int (0 : Int32)), (.int (0 : Int32)), (.int (0 : Int32))] (.int (0 : Int32)) := (Arv.new A125 (by decide)).pad (pad_rep [] (.int (0 : Int32)) 3)
  refine own_go (T' := T125) (f' := (mkF m 149 #[oR b12, oI 1, oI 3, oR b14, oR b20, oI 1, oR b125, oI 3, oR b78, oI 2, oI 2, oI 0, oI 3] [vI 1, vR b20])) (fun _ k => st125 _ (own_e X125 tt 143 3 k rfl)) ?_
  have G128 := ((((G67.keep Kq77 (ninS q115 nin0)).ext E78).keep Kq111 (ninS q120 (ninS q118 (ninS q117 (ninS q116 nin0))))).ext E125)
  have q129 := oL u35 (oT c75 sg_b64)
  have q130 := oL u35 (oT c74 sg_b54)
  have q131 := oL u35 (oT m48 sg_x43a)
  have c132 := oT c75 m80
  have q133 := oL u35 (oT c132 sg_b78)
  have G134 := ((((G68.keep Kq77 (ninS q129 nin0)).ext E78).keep Kq111 (ninS q133 (ninS (oL u35 sg_x34a) (ninS q131 (ninS q130 nin0))))).ext E125)
  obtain ⟨cq135, kq135, q135a, q135b, q135c⟩ := isOf hZ e125 (G123.ext E125)
  obtain ⟨_, T135, Lc135, X135, hQ135, st135⟩ := own_out (X125.interfaceBack hx (xi := mn16) (y := mn15) hown (mvT hZ (ow98 hw)) (mvT hZ (ow99 hw)) (mvT hZ (ow100 hw)) (mvT hZ (ow101 hw)) (mvT hZ (ow102 hw)) (mvT hZ (ow103 hw)) (mvT hZ (ow104 hw)) (mvT hZ (ow53 hw)) (by decide) (backOf (W := 0) (rm13a43 l Z a0 hw [] b20 b30a k30b b30c b30d b30e h125 n0 (oT Zs122 E125.1) (G123.ext E125) G128 (G121.ext E125) G134) hZ (ow105 hw) (ow12 hw) (by decide) (by decide)) q135a q135b q135c (g := (mkF m 149 #[oR b12, oI 1, oI 3, oR b14, oR b20, oI 1, oR b125, oI 3, oR b78, oI 2, oI 2, oI 0, oI 3] [vI 1, vR b20])) rfl (by rw [hml]; rfl) (Steps.refl _) (argsL := [(.int (1 : Int32))]) (rest := []) (lenOf pd5 rfl) rfl (by show 2 * 0 + _ ≤ _; exact Nat.le_of_eq rfl) (hb hby d1_149) (fun _ _ => ⟨rfl, e125, (by decide : 19 + 0 ≤ _), (by decide : 60 + 0 ≤ _)⟩))
  obtain ⟨rfl, N135q, hh135⟩ := hQ135
  have N135 := Fr.app N124 N135q
  obtain ⟨_, X135, N135⟩ := own_hide X135 N135
  refine own_go (T' := T135) (f' := (mkF m 154 #[oR b12, oI 1, oI 3, oR b14, oR b20, oI 1, oR b125, oI 3, oR b78, oI 2, oI 2, oI 0, oI 3] [vR b30d])) (fun _ k => st135.trans k) ?_
  have G136 := (((((((((((g30_9.ext E34).wr W41).ext E43).wr W51).ext E54).wr W61).ext E64).keep Kq77).ext E78).keep Kq111).ext E125)
  obtain ⟨T137, X137, e137, st137⟩ := castY X135 hx hZ hown (ow44 hw) hh135 (Ins.self G136) (g := (mkF m 154 #[oR b12, oI 1, oI 3, oR b14, oR b20, oI 1, oR b125, oI 3, oR b78, oI 2, oI 2, oI 0, oI 3] [vR b30d])) rfl rfl (hb hby d1_154)
  refine own_go (T' := T137) (f' := (mkF m 157 #[oR b12, oI 1, oI 3, oR b14, oR b20, oI 1, oR b125, oI 3, oR b78, oI 2, oI 2, oI 0, oI 3] [vR b30d])) (fun _ k => st137 _ k) ?_
  have q138 := oL u37 (oT c75 sg_b64)
  have q139 := oL u37 (oT c74 sg_b54)
  have q140 := oL u37 (oT m48 sg_x43a)
  have q141 := oL u37 (oT c132 sg_b78)
  have G142 := (((((((((((g30_8.ext E34).other W41 (oM PE2.lt sz_b30d)).ext E43).other W51 (oM PE2.lt sz_b30d)).ext E54).other W61 (oM PE2.lt sz_b30d)).ext E64).keep Kq77 (ninS q138 nin0)).ext E78).keep Kq111 (ninS q141 (ninS (oL u37 sg_x34a) (ninS q140 (ninS q139 nin0))))).ext E125)
  have l143 : b20 < b30d := oW u27 (oT m32 sg_b30d)
  have l144 : b30d < b78 := oW u37 (oT c132 sg_b78)
  have l145 : b78 < b125 := oW u126 sg_b125
  refine own_mrun2 (a0 := a0) (as := [b12, b14, b20, b30d, b78, b125]) (kc := [0, 0, 0, k25, 0, k125]) (fl := []) (cl := []) (wl := [5]) (ks := [3, 5]) (na := 6) (ls := [oR 0, oI 1, oI 3, oR 1, oR 2, oI 1, oR 5, oI 3, oR 4, oI 2, oI 2, oI 0, oI 3]) (st := [vR 3]) (me := [(3, .int, 2, [vI 0, vI 2]), (5, .boolean, 3, [vI 0, vI 0, vI 0])]) (pc' := 197) (ls' := [oR 0, oI 1, oI 3, oR 1, oR 2, oI 1, oR 5, oI 0, oI 2, oI 2, oI 2, oI 0, oI 3]) (st' := [vI 2]) (ups := [(5, [vI 1, vI 0, vI 1])]) tt hZ hown X137 N135 e137 trivial trivial trivial (oA G142 (oA V_b125 trivial)) (Or.inr (oA l16 (oA l72 (oA l143 (oA l144 (oA l145 trivial)))))) (oA n_b125 trivial) rfl rfl (by decide +kernel) 38 (by decide +kernel) fun T146 h146 _ X146 N146 e146 K146 q146 M146 => ?_
  have Kq146 : Keep h125 h146 [b125] := K146
  have KK146 : Keep h0 h146 [b12] := Keep.trans K125 Kq146 (allS (Or.inr sz_b125) all0)
  obtain ⟨-, v146_1, -⟩ := M146
  have V146_1 : Arv Z h146 b125 k125 .boolean (3 : Int32) [(.int (1 : Int32)), (.int (0 : Int32)), (.int (1 : Int32))] (.int (0 : Int32)) := v146_1
  show own_Ends p e below s _ _ _ T146 (mkF m 197 #[oR b12, oI 1, oI 3, oR b14, oR b20, oI 1, oR b125, oI 0, oI 2, oI 2, oI 2, oI 0, oI 3] [vI 2])
  obtain ⟨T147, h147, k147, X147, e147, E147, A147, EA147, st147⟩ := newPE (aty := .boolean) X146 hx hZ (ow97 hw) e146 (g := (mkF m 197 #[oR b12, oI 1, oI 3, oR b14, oR b20, oI 1, oR b125, oI 0, oI 2, oI 2, oI 2, oI 0, oI 3] [vI 2])) rfl (hb hby d1_197) rfl (by decide) (cap := 2) (by decide) (by decide) (by decide) (by decide) (ad := "[Z") (by decide +kernel)
  obtain ⟨b147, g_b147⟩ : ∃ z, z = h146.size := ⟨_, rfl⟩
  have sg_b147 : h146.size ≤ b147 := Nat.le_of_eq g_b147.symm
  rw [← g_b147] at A147 EA147 st147
  have n_b147 := oT (oT (oT Zs122 E125.1) Kq146.1) sg_b147
  have sz_b147 := oT KK146.1 sg_b147
  have u148 := (oW V_b125.lt Kq146.1)
  have m149 : h111.size ≤ h146.size := (oT (oT (Nat.le_refl _) E125.1) Kq146.1)
  have K147 : Keep h0 h147 [b12] := KK146.ext E147
  have V_b147 : Arv Z h147 b147 k147 .boolean (2 : Int32) [(.int (0 : Int32)), (.int (0 : Int32))] (.int (0 : Int32)) := (Arv.new A147 (by decide)).pad (pad_rep [] (.int (0 : Int32)) 2)
  refine own_go (T' := T147) (f' := (mkF m 199 #[oR b12, oI 1, oI 3, oR b14, oR b20, oI 1, oR b125, oI 0, oI 2, oI 2, oI 2, oI 0, oI 3] [vR b147])) (fun _ k => st147 _ k) ?_
  have q150 := oL u44 (oT m59 sg_b54)
  have c151 := oT c81 m80
  have q152 := oL u44 (oT c151 sg_b78)
  have c153 := oT c151 m127
  have q154 := oL u44 (oT c153 sg_b125)
  have G155 := ((((G83.keep Kq111 (ninS q152 (ninS (Ne.symm nn_x34a_b34) (ninS (oL u44 sg_x43a) (ninS q150 nin0))))).ext E125).keep Kq146 (ninS q154 nin0)).ext E147)
  have q156 := oL u21 (oT c88 sg_b54)
  have q157 := oL u21 (oT c87 sg_x43a)
  have q158 := oL u21 (oT c86 sg_x34a)
  have c159 := oT c89 m80
  have q160 := oL u21 (oT c159 sg_b78)
  have c161 := oT c159 m127
  have q162 := oL u21 (oT c161 sg_b125)
  have G163 := ((((G91.keep Kq111 (ninS q160 (ninS q158 (ninS q157 (ninS q156 nin0))))).ext E125).keep Kq146 (ninS q162 nin0)).ext E147)
  have q164 := oL u46 (oT c81 sg_b64)
  have q165 := oL u46 (oT m59 sg_b54)
  have q166 := oL u46 (oT c151 sg_b78)
  have q167 := oL u46 (oT c153 sg_b125)
  have G168 := ((((((((((((V_x34b.other W41 (oM PE2.lt sz_x34b)).ext E43).other W51 (oM PE2.lt sz_x34b)).ext E54).other W61 (oM PE2.lt sz_x34b)).ext E64).keep Kq77 (ninS q164 nin0)).ext E78).keep Kq111 (ninS q166 (ninS nn_x34b_x34a (ninS (oL u46 sg_x43a) (ninS q165 nin0))))).ext E125).keep Kq146 (ninS q167 nin0)).ext E147)
  have c169 := oT m66 m80
  have q170 := oL u55 (oT c169 sg_b78)
  have c171 := oT c169 m127
  have q172 := oL u55 (oT c171 sg_b125)
  have G173 := ((((G95.keep Kq111 (ninS q170 (ninS (oM u45 sg_b43) (ninS (Ne.symm nn_x43a_b43) (ninS (oL u55 sg_b54) nin0))))).ext E125).keep Kq146 (ninS q172 nin0)).ext E147)
  have q174 := oL u57 (oT m66 sg_b64)
  have q175 := oL u57 (oT c169 sg_b78)
  have q176 := oL u57 (oT c171 sg_b125)
  have G177 := ((((((((((V_x43b.other W51 (oM PE2.lt sz_x43b)).ext E54).other W61 (oM PE2.lt sz_x43b)).ext E64).keep Kq77 (ninS q174 nin0)).ext E78).keep Kq111 (ninS q175 (ninS (oM u45 sg_x43b) (ninS nn_x43b_x43a (ninS (oL u57 sg_b54) nin0))))).ext E125).keep Kq146 (ninS q176 nin0)).ext E147)
  have c178 := oT m80 m127
  have q179 := oL u65 (oT c178 sg_b125)
  have G180 := ((((G98.keep Kq111 (ninS (oL PE2.lt sz_b78) (ninS (oL PE2.lt sz_x34a) (ninS (oL PE2.lt sz_x43a) (ninS (oL PE2.lt sz_b54) nin0))))).ext E125).keep Kq146 (ninS (oL PE2.lt sz_b125) nin0)).ext E147)
  have G181 := (((((((((Fw51.ext E54).other W61 (Or.inr (sn_94_96 hw))).ext E64).keep Kq77 (ninS (oL PE2.lt sz_b64) nin0)).ext E78).keep Kq111 (ninS (oL PE2.lt sz_b78) (ninS (oL PE2.lt sz_x34a) (ninS (oL PE2.lt sz_x43a) (ninS (oL PE2.lt sz_b54) nin0))))).ext E125).keep Kq146 (ninS (oL PE2.lt sz_b125) nin0)).ext E147)
  have G182 := (((((((Fw61.ext E64).keep Kq77 (ninS (oL PE2.lt sz_b64) nin0)).ext E78).keep Kq111 (ninS (oL PE2.lt sz_b78) (ninS (oL PE2.lt sz_x34a) (ninS (oL PE2.lt sz_x43a) (ninS (oL PE2.lt sz_b54) nin0))))).ext E125).keep Kq146 (ninS (oL PE2.lt sz_b125) nin0)).ext E147)
  have l183 : b54 < b125 := oW u65 (oT c178 sg_b125)
  have l184 : b125 < b147 := oW u148 sg_b147
  refine own_mrun2 (a0 := a0) (as := [b12, b14, b20, b34, x34a, x34b, x34c, b43, x43a, x43b, x43c, b54, b125, b147]) (kc := [0, k14, 0, k34, 0, kc34, 0, k43, 0, kc43, 0, k54, k125, k147]) (fl := [fE1_26 0 (vR 3), fE1_29 0 (vR 7), fE1_32 0 (vR 11)]) (cl := []) (wl := [13, 5, 9, 11]) (ks := [13, 12, 3, 1, 5, 7, 9, 11]) (na := 14) (ls := [oR 0, oI 1, oI 3, oR 1, oR 2, oI 1, oR 12, oI 0, oI 2, oI 2, oI 2, oI 0, oI 3]) (st := [vR 13]) (me := [(13, .boolean, 2, [vI 0, vI 0]), (12, .boolean, 3, [vI 1, vI 0, vI 1]), (3, (.array .int), 3, [vR 4, vR 5, vR 6]), (1, .int, 4, [vI 0, vI 22, vI 43, vI 64]), (5, .int, 3, [vI 0, vI 0, vI 0]), (7, (.array .int), 3, [vR 8, vR 9, vR 10]), (9, .int, 3, [vI 0, vI 0, vI 0]), (11, .int, 3, [vI 43, vI 0, vI 0])]) (pc' := 132) (ls' := [oR 0, oI 1, oI 3, oR 1, oR 2, oI 2, oR 12, oI 3, oR 13, oI 2, oI 2, oI 0, oI 3]) (st' := [vR 2, vI 2]) (ups := [(13, [vI 1, vI 0]), (5, [vI 42, vI 0, vI 21]), (9, [vI 22, vI 21, vI 21]), (11, [vI 43, vI 43, vI 0])]) tt hZ hown X147 N146 e147 (oA (ow91 hw) (oA (ow93 hw) (oA (ow95 hw) trivial))) trivial (oA G180 (oA G181 (oA G182 trivial))) (oA V_b147 (oA (V146_1.ext E147) (oA G155 (oA G163 (oA G168 (oA G173 (oA G177 (oA (((V111_7.ext E125).keep Kq146 (ninS q179 nin0)).ext E147) trivial)))))))) (Or.inr (oA l16 (oA l72 (oA l100 (oA l101 (oA l102 (oA l103 (oA l104 (oA l105 (oA l106 (oA l107 (oA l108 (oA l183 (oA l184 trivial)))))))))))))) (oA n_b147 (oA n_x34b (oA n_x43b (oA n_b54 trivial)))) rfl rfl (by decide +kernel) 238 (by decide +kernel) fun T185 h185 _ X185 N185 e185 K185 q185 M185 => ?_
  have Kq185 : Keep h147 h185 [b147, x34b, x43b, b54] := K185
  have KK185 : Keep h0 h185 [b12] := Keep.trans K147 Kq185 (allS (Or.inr sz_b147) (allS (Or.inr sz_x34b) (allS (Or.inr sz_x43b) (allS (Or.inr sz_b54) all0))))
  obtain ⟨v185_0, -, -, -, v185_4, -, v185_6, v185_7, -⟩ := M185
  have V185_0 : Arv Z h185 b147 k147 .boolean (2 : Int32) [(.int (1 : Int32)), (.int (0 : Int32))] (.int (0 : Int32)) := v185_0
  have V185_4 : Arv Z h185 x34b kc34 .int (3 : Int32) [(.int (42 : Int32)), (.int (0 : Int32)), (.int (21 : Int32))] (.int (0 : Int32)) := v185_4
  have V185_6 : Arv Z h185 x43b kc43 .int (3 : Int32) [(.int (22 : Int32)), (.int (21 : Int32)), (.int (21 : Int32))] (.int (0 : Int32)) := v185_6
  have V185_7 : Arv Z h185 b54 k54 .int (3 : Int32) [(.int (43 : Int32)), (.int (43 : Int32)), (.int (0 : Int32))] (.int (0 : Int32)) := v185_7
  show own_Ends p e below s _ _ _ T185 (mkF m 132 #[oR b12, oI 1, oI 3, oR b14, oR b20, oI 2, oR b125, oI 3, oR b147, oI 2, oI 2, oI 0, oI 3] [vR b20, vI 2])
  have c186 := oT c119 m127
  have q187 := oL u27 (oT c186 sg_b125)
  have q188 := oL u27 (oT c112 sg_x43b)
  have q189 := oL u27 (oT c99 sg_x34b)
  have c190 := oT c186 m149
  have q191 := oL u27 (oT c190 sg_b147)
  have G192 := ((((G121.ext E125).keep Kq146 (ninS q187 nin0)).ext E147).keep Kq185 (ninS q191 (ninS q189 (ninS q188 (ninS q116 nin0)))))
  obtain ⟨cq193, kq193, q193a, q193b, q193c⟩ := isOf hZ e185 ((((G123.ext E125).keep Kq146).ext E147).keep Kq185)
  obtain ⟨_, T193, Lc193, X193, hQ193, st193⟩ := own_out (X185.interfaceBack hx (xi := mn11) (y := mn10) hown (mvT hZ (ow81 hw)) (mvT hZ (ow82 hw)) (mvT hZ (ow83 hw)) (mvT hZ (ow84 hw)) (mvT hZ (ow85 hw)) (mvT hZ (ow86 hw)) (mvT hZ (ow87 hw)) (mvT hZ (ow53 hw)) (by decide) (backOf (W := 1) (rm12a38 l Z a0 hw [] b20 h185 n0 (oT (oT (oT (oT Zs122 E125.1) Kq146.1) E147.1) Kq185.1) G192) hZ (ow88 hw) (ow12 hw) (by decide) (by decide)) q193a q193b q193c (g := (mkF m 132 #[oR b12, oI 1, oI 3, oR b14, oR b20, oI 2, oR b125, oI 3, oR b147, oI 2, oI 2, oI 0, oI 3] [vR b20, vI 2])) rfl (by rw [hml]; rfl) (Steps.refl _) (argsL := []) (rest := [(.int (2 : Int32))]) (lenOf pd0 rfl) rfl (by show 2 * 0 + _ ≤ _; exact Nat.le_of_eq rfl) (hb hby d1_132) (fun _ _ => ⟨rfl, e185, (by decide : 20 + 0 ≤ _), (by decide : 62 + 0 ≤ _)⟩))
  obtain ⟨rfl, N193q, hh193⟩ := hQ193
  have N193 := Fr.app N185 N193q
  obtain ⟨_, X193, N193⟩ := own_hide X193 N193
  refine own_go (T' := T193) (f' := (mkF m 141 #[oR b12, oI 1, oI 3, oR b14, oR b20, oI 2, oR b125, oI 3, oR b147, oI 2, oI 2, oI 0, oI 3] [vI 3])) (fun _ k => st193.trans (own_e X193 tt 137 2 k rfl)) ?_
  obtain ⟨T194, h194, k194, X194, e194, E194, A194, EA194, st194⟩ := newPE (aty := .boolean) X193 hx hZ (ow97 hw) hh193 (g := (mkF m 141 #[oR b12, oI 1, oI 3, oR b14, oR b20, oI 2, oR b125, oI 3, oR b147, oI 2, oI 2, oI 0, oI 3] [vI 3])) rfl (hb hby d1_141) rfl (by decide) (cap := 3) (by decide) (by decide) (by decide) (by decide) (ad := "[Z") (by decide +kernel)
  obtain ⟨b194, g_b194⟩ : ∃ z, z = h185.size := ⟨_, rfl⟩
  have sg_b194 : h185.size ≤ b194 := Nat.le_of_eq g_b194.symm
  rw [← g_b194] at A194 EA194 st194
  have n_b194 := oT (oT (oT (oT (oT Zs122 E125.1) Kq146.1) E147.1) Kq185.1) sg_b194
  have sz_b194 := oT KK185.1 sg_b194
  have u195 := (oW V_b147.lt Kq185.1)
  have m196 : h146.size ≤ h185.size := (oT (oT (Nat.le_refl _) E147.1) Kq185.1)
  have K194 : Keep h0 h194 [b12] := KK185.ext E194
  have V_b194 : Arv Z h194 b194 k194 .boolean (3 : Int32) [(.int (0 : Int32)), (.int (0 : Int32)), (.int (0 : Int32))] (.int (0 : Int32)) := (Arv.new A194 (by decide)).pad (pad_rep [] (.int (0 : Int32)) 3)
  refine own_go (T' := T194) (f' := (mkF m 149 #[oR b12, oI 1, oI 3, oR b14, oR b20, oI 2, oR b194, oI 3, oR b147, oI 2, oI 2, oI 0, oI 3] [vI 2, vR b20])) (fun _ k => st194 _ (own_e X194 tt 143 3 k rfl)) ?_
  have G197 := ((((G128.keep Kq146 (ninS q187 nin0)).ext E147).keep Kq185 (ninS q191 (ninS q189 (ninS q188 (ninS q116 nin0))))).ext E194)
  have c198 := oT c132 m127
  have q199 := oL u35 (oT c198 sg_b125)
  have q200 := oL u35 (oT m48 sg_x43b)
  have c201 := oT c198 m149
  have q202 := oL u35 (oT c201 sg_b147)
  have G203 := ((((G134.keep Kq146 (ninS q199 nin0)).ext E147).keep Kq185 (ninS q202 (ninS (oL u35 sg_x34b) (ninS q200 (ninS q130 nin0))))).ext E194)
  obtain ⟨cq204, kq204, q204a, q204b, q204c⟩ := isOf hZ e194 (((((G123.ext E125).keep Kq146).ext E147).keep Kq185).ext E194)
  obtain ⟨_, T204, Lc204, X204, hQ204, st204⟩ := own_out (X194.interfaceBack hx (xi := mn16) (y := mn15) hown (mvT hZ (ow98 hw)) (mvT hZ (ow99 hw)) (mvT hZ (ow100 hw)) (mvT hZ (ow101 hw)) (mvT hZ (ow102 hw)) (mvT hZ (ow103 hw)) (mvT hZ (ow104 hw)) (mvT hZ (ow53 hw)) (by decide) (backOf (W := 0) (rm13a47 l Z a0 hw [] b20 b30a k30b b30c b30d b30e h194 n0 (oT (oT (oT (oT (oT Zs122 E125.1) Kq146.1) E147.1) Kq185.1) E194.1) (((((G123.ext E125).keep Kq146).ext E147).keep Kq185).ext E194) G197 (G192.ext E194) G203) hZ (ow105 hw) (ow12 hw) (by decide) (by decide)) q204a q204b q204c (g := (mkF m 149 #[oR b12, oI 1, oI 3, oR b14, oR b20, oI 2, oR b194, oI 3, oR b147, oI 2, oI 2, oI 0, oI 3] [vI 2, vR b20])) rfl (by rw [hml]; rfl) (Steps.refl _) (argsL := [(.int (2 : Int32))]) (rest := []) (lenOf pd5 rfl) rfl (by show 2 * 0 + _ ≤ _; exact Nat.le_of_eq rfl) (hb hby d1_149) (fun _ _ => ⟨rfl, e194, (by decide : 21 + 0 ≤ _), (by decide : 65 + 0 ≤ _)⟩))
  obtain ⟨rfl, N204q, hh204⟩ := hQ204
  have N204 := Fr.app N193 N204q
  obtain ⟨_, X204, N204⟩ := own_hide X204 N204
  refine own_go (T' := T204) (f' := (mkF m 154 #[oR b12, oI 1, oI 3, oR b14, oR b20, oI 2, oR b194, oI 3, oR b147, oI 2, oI 2, oI 0, oI 3] [vR b30e])) (fun _ k => st204.trans k) ?_
  have G205 := (((((((((((((((g30_11.ext E34).wr W41).ext E43).wr W51).ext E54).wr W61).ext E64).keep Kq77).ext E78).keep Kq111).ext E125).keep Kq146).ext E147).keep Kq185).ext E194)
  obtain ⟨T206, X206, e206, st206⟩ := castY X204 hx hZ hown (ow44 hw) hh204 (Ins.self G205) (g := (mkF m 154 #[oR b12, oI 1, oI 3, oR b14, oR b20, oI 2, oR b194, oI 3, oR b147, oI 2, oI 2, oI 0, oI 3] [vR b30e])) rfl rfl (hb hby d1_154)
  refine own_go (T' := T206) (f' := (mkF m 157 #[oR b12, oI 1, oI 3, oR b14, oR b20, oI 2, oR b194, oI 3, oR b147, oI 2, oI 2, oI 0, oI 3] [vR b30e])) (fun _ k => st206 _ k) ?_
  have q207 := oL u38 (oT c75 sg_b64)
  have q208 := oL u38 (oT c74 sg_b54)
  have q209 := oL u38 (oT m48 sg_x43a)
  have q210 := oL u38 (oT c132 sg_b78)
  have q211 := oL u38 (oT c198 sg_b125)
  have q212 := oL u38 (oT m48 sg_x43b)
  have q213 := oL u38 (oT c201 sg_b147)
  have G214 := (((((((((((((((g30_10.ext E34).other W41 (oM PE2.lt sz_b30e)).ext E43).other W51 (oM PE2.lt sz_b30e)).ext E54).other W61 (oM PE2.lt sz_b30e)).ext E64).keep Kq77 (ninS q207 nin0)).ext E78).keep Kq111 (ninS q210 (ninS (oL u38 sg_x34a) (ninS q209 (ninS q208 nin0))))).ext E125).keep Kq146 (ninS q211 nin0)).ext E147).keep Kq185 (ninS q213 (ninS (oL u38 sg_x34b) (ninS q212 (ninS q208 nin0))))).ext E194)
  have l215 : b20 < b30e := oW u27 (oT m32 sg_b30e)
  have l216 : b30e < b147 := oW u38 (oT c201 sg_b147)
  have l217 : b147 < b194 := oW u195 sg_b194
  refine own_mrun2 (a0 := a0) (as := [b12, b14, b20, b30e, b147, b194]) (kc := [0, 0, 0, k25, 0, k194]) (fl := []) (cl := []) (wl := [5]) (ks := [3, 5]) (na := 6) (ls := [oR 0, oI 1, oI 3, oR 1, oR 2, oI 2, oR 5, oI 3, oR 4, oI 2, oI 2, oI 0, oI 3]) (st := [vR 3]) (me := [(3, .int, 2, [vI 1, vI 2]), (5, .boolean, 3, [vI 0, vI 0, vI 0])]) (pc' := 197) (ls' := [oR 0, oI 1, oI 3, oR 1, oR 2, oI 2, oR 5, oI 0, oI 2, oI 2, oI 2, oI 0, oI 3]) (st' := [vI 2]) (ups := [(5, [vI 0, vI 1, vI 1])]) tt hZ hown X206 N204 e206 trivial trivial trivial (oA G214 (oA V_b194 trivial)) (Or.inr (oA l16 (oA l72 (oA l215 (oA l216 (oA l217 trivial)))))) (oA n_b194 trivial) rfl rfl (by decide +kernel) 38 (by decide +kernel) fun T218 h218 _ X218 N218 e218 K218 q218 M218 => ?_
  have Kq218 : Keep h194 h218 [b194] := K218
  have KK218 : Keep h0 h218 [b12] := Keep.trans K194 Kq218 (allS (Or.inr sz_b194) all0)
  obtain ⟨-, v218_1, -⟩ := M218
  have V218_1 : Arv Z h218 b194 k194 .boolean (3 : Int32) [(.int (0 : Int32)), (.int (1 : Int32)), (.int (1 : Int32))] (.int (0 : Int32)) := v218_1
  show own_Ends p e below s _ _ _ T218 (mkF m 197 #[oR b12, oI 1, oI 3, oR b14, oR b20, oI 2, oR b194, oI 0, oI 2, oI 2, oI 2, oI 0, oI 3] [vI 2])
  obtain ⟨T219, h219, k219, X219, e219, E219, A219, EA219, st219⟩ := newPE (aty := .boolean) X218 hx hZ (ow97 hw) e218 (g := (mkF m 197 #[oR b12, oI 1, oI 3, oR b14, oR b20, oI 2, oR b194, oI 0, oI 2, oI 2, oI 2, oI 0, oI 3] [vI 2])) rfl (hb hby d1_197) rfl (by decide) (cap := 2) (by decide) (by decide) (by decide) (by decide) (ad := "[Z") (by decide +kernel)
  have Zs220 : n0 ≤ h218.size := (oT (oT (oT (oT (oT (oT Zs122 E125.1) Kq146.1) E147.1) Kq185.1) E194.1) Kq218.1)
  obtain ⟨b219, g_b219⟩ : ∃ z, z = h218.size := ⟨_, rfl⟩
  have sg_b219 : h218.size ≤ b219 := Nat.le_of_eq g_b219.symm
  rw [← g_b219] at A219 EA219 st219
  have n_b219 := oT Zs220 sg_b219
  have sz_b219 := oT KK218.1 sg_b219
  have u221 := (oW V_b194.lt Kq218.1)
  have m222 : h185.size ≤ h218.size := (oT (oT (Nat.le_refl _) E194.1) Kq218.1)
  have K219 : Keep h0 h219 [b12] := KK218.ext E219
  have V_b219 : Arv Z h219 b219 k219 .boolean (2 : Int32) [(.int (0 : Int32)), (.int (0 : Int32))] (.int (0 : Int32)) := (Arv.new A219 (by decide)).pad (pad_rep [] (.int (0 : Int32)) 2)
  refine own_go (T' := T219) (f' := (mkF m 199 #[oR b12, oI 1, oI 3, oR b14, oR b20, oI 2, oR b194, oI 0, oI 2, oI 2, oI 2, oI 0, oI 3] [vR b219])) (fun _ k => st219 _ k) ?_
  have c223 := oT c153 m149
  have q224 := oL u44 (oT c223 sg_b147)
  have c225 := oT c223 m196
  have q226 := oL u44 (oT c225 sg_b194)
  have G227 := ((((G155.keep Kq185 (ninS q224 (ninS (Ne.symm nn_x34b_b34) (ninS (oL u44 sg_x43b) (ninS q150 nin0))))).ext E194).keep Kq218 (ninS q226 nin0)).ext E219)
  have q228 := oL u21 (oT c87 sg_x43b)
  have q229 := oL u21 (oT c86 sg_x34b)
  have c230 := oT c161 m149
  have q231 := oL u21 (oT c230 sg_b147)
  have c232 := oT c230 m196
  have q233 := oL u21 (oT c232 sg_b194)
  have G234 := ((((G163.keep Kq185 (ninS q231 (ninS q229 (ninS q228 (ninS q156 nin0))))).ext E194).keep Kq218 (ninS q233 nin0)).ext E219)
  have q235 := oL u47 (oT c81 sg_b64)
  have q236 := oL u47 (oT m59 sg_b54)
  have q237 := oL u47 (oT c151 sg_b78)
  have q238 := oL u47 (oT c153 sg_b125)
  have q239 := oL u47 (oT c223 sg_b147)
  have q240 := oL u47 (oT c225 sg_b194)
  have G241 := ((((((((((((((((V_x34c.other W41 (oM PE2.lt sz_x34c)).ext E43).other W51 (oM PE2.lt sz_x34c)).ext E54).other W61 (oM PE2.lt sz_x34c)).ext E64).keep Kq77 (ninS q235 nin0)).ext E78).keep Kq111 (ninS q237 (ninS nn_x34c_x34a (ninS (oL u47 sg_x43a) (ninS q236 nin0))))).ext E125).keep Kq146 (ninS q238 nin0)).ext E147).keep Kq185 (ninS q239 (ninS nn_x34c_x34b (ninS (oL u47 sg_x43b) (ninS q236 nin0))))).ext E194).keep Kq218 (ninS q240 nin0)).ext E219)
  have c242 := oT c171 m149
  have q243 := oL u55 (oT c242 sg_b147)
  have c244 := oT c242 m196
  have q245 := oL u55 (oT c244 sg_b194)
  have G246 := ((((G173.keep Kq185 (ninS q243 (ninS (oM u46 sg_b43) (ninS (Ne.symm nn_x43b_b43) (ninS (oL u55 sg_b54) nin0))))).ext E194).keep Kq218 (ninS q245 nin0)).ext E219)
  have q247 := oL u58 (oT m66 sg_b64)
  have q248 := oL u58 (oT c169 sg_b78)
  have q249 := oL u58 (oT c171 sg_b125)
  have q250 := oL u58 (oT c242 sg_b147)
  have q251 := oL u58 (oT c244 sg_b194)
  have G252 := ((((((((((((((V_x43c.other W51 (oM PE2.lt sz_x43c)).ext E54).other W61 (oM PE2.lt sz_x43c)).ext E64).keep Kq77 (ninS q247 nin0)).ext E78).keep Kq111 (ninS q248 (ninS (oM u45 sg_x43c) (ninS nn_x43c_x43a (ninS (oL u58 sg_b54) nin0))))).ext E125).keep Kq146 (ninS q249 nin0)).ext E147).keep Kq185 (ninS q250 (ninS (oM u46 sg_x43c) (ninS nn_x43c_x43b (ninS (oL u58 sg_b54) nin0))))).ext E194).keep Kq218 (ninS q251 nin0)).ext E219)
  have c253 := oT c178 m149
  have c254 := oT c253 m196
  have q255 := oL u65 (oT c254 sg_b194)
  have G256 := ((((G180.keep Kq185 (ninS (oL PE2.lt sz_b147) (ninS (oL PE2.lt sz_x34b) (ninS (oL PE2.lt sz_x43b) (ninS (oL PE2.lt sz_b54) nin0))))).ext E194).keep Kq218 (ninS (oL PE2.lt sz_b194) nin0)).ext E219)
  have G257 := ((((G181.keep Kq185 (ninS (oL PE2.lt sz_b147) (ninS (oL PE2.lt sz_x34b) (ninS (oL PE2.lt sz_x43b) (ninS (oL PE2.lt sz_b54) nin0))))).ext E194).keep Kq218 (ninS (oL PE2.lt sz_b194) nin0)).ext E219)
  have G258 := ((((G182.keep Kq185 (ninS (oL PE2.lt sz_b147) (ninS (oL PE2.lt sz_x34b) (ninS (oL PE2.lt sz_x43b) (ninS (oL PE2.lt sz_b54) nin0))))).ext E194).keep Kq218 (ninS (oL PE2.lt sz_b194) nin0)).ext E219)
  have l259 : b54 < b194 := oW u65 (oT c254 sg_b194)
  have l260 : b194 < b219 := oW u221 sg_b219
  refine own_mrun2 (a0 := a0) (as := [b12, b14, b20, b34, x34a, x34b, x34c, b43, x43a, x43b, x43c, b54, b194, b219]) (kc := [0, k14, 0, k34, 0, 0, kc34, k43, 0, 0, kc43, k54, k194, k219]) (fl := [fE1_26 0 (vR 3), fE1_29 0 (vR 7), fE1_32 0 (vR 11)]) (cl := []) (wl := [13, 6, 10, 11]) (ks := [13, 12, 3, 1, 6, 7, 10, 11]) (na := 14) (ls := [oR 0, oI 1, oI 3, oR 1, oR 2, oI 2, oR 12, oI 0, oI 2, oI 2, oI 2, oI 0, oI 3]) (st := [vR 13]) (me := [(13, .boolean, 2, [vI 0, vI 0]), (12, .boolean, 3, [vI 0, vI 1, vI 1]), (3, (.array .int), 3, [vR 4, vR 5, vR 6]), (1, .int, 4, [vI 0, vI 22, vI 43, vI 64]), (6, .int, 3, [vI 0, vI 0, vI 0]), (7, (.array .int), 3, [vR 8, vR 9, vR 10]), (10, .int, 3, [vI 0, vI 0, vI 0]), (11, .int, 3, [vI 43, vI 43, vI 0])]) (pc' := 132) (ls' := [oR 0, oI 1, oI 3, oR 1, oR 2, oI 3, oR 12, oI 3, oR 13, oI 2, oI 2, oI 0, oI 3]) (st' := [vR 2, vI 3]) (ups := [(13, [vI 1, vI 0]), (6, [vI 21, vI 0, vI 42]), (10, [vI 21, vI 21, vI 22]), (11, [vI 43, vI 43, vI 42])]) tt hZ hown X219 N218 e219 (oA (ow91 hw) (oA (ow93 hw) (oA (ow95 hw) trivial))) trivial (oA G256 (oA G257 (oA G258 trivial))) (oA V_b219 (oA (V218_1.ext E219) (oA G227 (oA G234 (oA G241 (oA G246 (oA G252 (oA (((V185_7.ext E194).keep Kq218 (ninS q255 nin0)).ext E219) trivial)))))))) (Or.inr (oA l16 (oA l72 (oA l100 (oA l101 (oA l102 (oA l103 (oA l104 (oA l105 (oA l106 (oA l107 (oA l108 (oA l259 (oA l260 trivial)))))))))))))) (oA n_b219 (oA n_x34c (oA n_x43c (oA n_b54 trivial)))) rfl rfl (by decide +kernel) 238 (by decide +kernel) fun T261 h261 _ X261 N261 e261 K261 q261 M261 => ?_
  have Kq261 : Keep h219 h261 [b219, x34c, x43c, b54] := K261
  have KK261 : Keep h0 h261 [b12] := Keep.trans K219 Kq261 (allS (Or.inr sz_b219) (allS (Or.inr sz_x34c) (allS (Or.inr sz_x43c) (allS (Or.inr sz_b54) all0))))
  obtain ⟨v261_0, -, -, -, v261_4, -, v261_6, v261_7, -⟩ := M261
  have V261_0 : Arv Z h261 b219 k219 .boolean (2 : Int32) [(.int (1 : Int32)), (.int (0 : Int32))] (.int (0 : Int32)) := v261_0
  have V261_4 : Arv Z h261 x34c kc34 .int (3 : Int32) [(.int (21 : Int32)), (.int (0 : Int32)), (.int (42 : Int32))] (.int (0 : Int32)) := v261_4
  have V261_6 : Arv Z h261 x43c kc43 .int (3 : Int32) [(.int (21 : Int32)), (.int (21 : Int32)), (.int (22 : Int32))] (.int (0 : Int32)) := v261_6
  have V261_7 : Arv Z h261 b54 k54 .int (3 : Int32) [(.int (43 : Int32)), (.int (43 : Int32)), (.int (42 : Int32))] (.int (0 : Int32)) := v261_7
  show own_Ends p e below s _ _ _ T261 (mkF m 132 #[oR b12, oI 1, oI 3, oR b14, oR b20, oI 3, oR b194, oI 3, oR b219, oI 2, oI 2, oI 0, oI 3] [vR b20, vI 3])
  have c262 := oT c190 m196
  have q263 := oL u27 (oT c262 sg_b194)
  have q264 := oL u27 (oT c112 sg_x43c)
  have q265 := oL u27 (oT c99 sg_x34c)
  have c266 := oT c262 m222
  have q267 := oL u27 (oT c266 sg_b219)
  have G268 := ((((G192.ext E194).keep Kq218 (ninS q263 nin0)).ext E219).keep Kq261 (ninS q267 (ninS q265 (ninS q264 (ninS q116 nin0)))))
  obtain ⟨cq269, kq269, q269a, q269b, q269c⟩ := isOf hZ e261 ((((((((G123.ext E125).keep Kq146).ext E147).keep Kq185).ext E194).keep Kq218).ext E219).keep Kq261)
  obtain ⟨_, T269, Lc269, X269, hQ269, st269⟩ := own_out (X261.interfaceBack hx (xi := mn11) (y := mn10) hown (mvT hZ (ow81 hw)) (mvT hZ (ow82 hw)) (mvT hZ (ow83 hw)) (mvT hZ (ow84 hw)) (mvT hZ (ow85 hw)) (mvT hZ (ow86 hw)) (mvT hZ (ow87 hw)) (mvT hZ (ow53 hw)) (by decide) (backOf (W := 1) (rm12a38 l Z a0 hw [] b20 h261 n0 (oT (oT Zs220 E219.1) Kq261.1) G268) hZ (ow88 hw) (ow12 hw) (by decide) (by decide)) q269a q269b q269c (g := (mkF m 132 #[oR b12, oI 1, oI 3, oR b14, oR b20, oI 3, oR b194, oI 3, oR b219, oI 2, oI 2, oI 0, oI 3] [vR b20, vI 3])) rfl (by rw [hml]; rfl) (Steps.refl _) (argsL := []) (rest := [(.int (3 : Int32))]) (lenOf pd0 rfl) rfl (by show 2 * 0 + _ ≤ _; exact Nat.le_of_eq rfl) (hb hby d1_132) (fun _ _ => ⟨rfl, e261, (by decide : 22 + 0 ≤ _), (by decide : 67 + 0 ≤ _)⟩))
  obtain ⟨rfl, N269q, hh269⟩ := hQ269
  have N269 := Fr.app N261 N269q
  obtain ⟨_, X269, N269⟩ := own_hide X269 N269
  refine own_go (T' := T269) (f' := (mkF m 343 #[oR b12, oI 1, oI 3, oR b14, oR b20, oI 3, oR b194, oI 3, oR b219, oI 2, oI 2, oI 0, oI 3] [vR b20, vR b12])) (fun _ k => st269.trans (own_e X269 tt 137 3 k rfl)) ?_
  obtain ⟨cq270, kq270, q270a, q270b, q270c⟩ := isOf hZ hh269 ((((((((G123.ext E125).keep Kq146).ext E147).keep Kq185).ext E194).keep Kq218).ext E219).keep Kq261)
  obtain ⟨_, T270, Lc270, X270, hQ270, st270⟩ := own_out (X269.interfaceBack hx (xi := mn11) (y := mn10) hown (mvT hZ (ow81 hw)) (mvT hZ (ow82 hw)) (mvT hZ (ow83 hw)) (mvT hZ (ow84 hw)) (mvT hZ (ow85 hw)) (mvT hZ (ow86 hw)) (mvT hZ (ow87 hw)) (mvT hZ (ow53 hw)) (by decide) (backOf (W := 1) (rm12a38 l Z a0 hw [] b20 h261 n0 (oT (oT Zs220 E219.1) Kq261.1) G268) hZ (ow88 hw) (ow12 hw) (by decide) (by decide)) q270a q270b q270c (g := (mkF m 343 #[oR b12, oI 1, oI 3, oR b14, oR b20, oI 3, oR b194, oI 3, oR b219, oI 2, oI 2, oI 0, oI 3] [vR b20, vR b12])) rfl (by rw [hml]; rfl) (Steps.refl _) (argsL := []) (rest := [(.ref b12)]) (lenOf pd0 rfl) rfl (by show 2 * 0 + _ ≤ _; exact Nat.le_of_eq rfl) (hb hby d1_343) (fun _ _ => ⟨rfl, hh269, (by decide : 22 + 0 ≤ _), (by decide : 67 + 0 ≤ _)⟩))
  obtain ⟨rfl, N270q, hh270⟩ := hQ270
  have N270 := Fr.app N269 N270q
  obtain ⟨_, X270, N270⟩ := own_hide X270 N270
  refine own_go (T' := T270) (f' := (mkF m 348 #[oR b12, oI 1, oI 3, oR b14, oR b20, oI 3, oR b194, oI 3, oR b219, oI 2, oI 2, oI 0, oI 3] [vI 3, vR b12])) (fun _ k => st270.trans k) ?_
  obtain ⟨T271, h271, k271, X271, e271, E271, A271, EA271, O271, st271⟩ := newRA X270 hx hZ (C := "[J") (ty := .long) hown (by decide +kernel) (ow119 hw) (ow120 hw) hh270 (g := (mkF m 348 #[oR b12, oI 1, oI 3, oR b14, oR b20, oI 3, oR b194, oI 3, oR b219, oI 2, oI 2, oI 0, oI 3] [vI 3, vR b12])) rfl (hb hby d1_348) rfl (by decide) (cap := 3) (by decide) (by decide) (by decide) (by decide) (ad := "[[J") (by decide +kernel)
  obtain ⟨b271, g_b271⟩ : ∃ z, z = h261.size := ⟨_, rfl⟩
  have sg_b271 : h261.size ≤ b271 := Nat.le_of_eq g_b271.symm
  rw [← g_b271] at A271 EA271 st271
  have n_b271 := oT (oT (oT Zs220 E219.1) Kq261.1) sg_b271
  have sz_b271 := oT KK261.1 sg_b271
  have u272 := (oW V_b219.lt Kq261.1)
  have m273 : h218.size ≤ h261.size := (oT (oT (Nat.le_refl _) E219.1) Kq261.1)
  have K271 : Keep h0 h271 [b12] := KK261.ext E271
  have V_b271 : Arv Z h271 b271 k271 (.array .long) (3 : Int32) [.null, .null, .null] .null := (Arv.new A271 (by decide)).pad (pad_rep [] .null 3)
  refine own_go (T' := T271) (f' := (mkF m 351 #[oR b12, oI 1, oI 3, oR b14, oR b20, oI 3, oR b194, oI 3, oR b219, oI 2, oI 2, oI 0, oI 3] [vR b271, vR b12])) (fun _ k => st271 _ k) ?_
  have G274 := ((((((((((((((((G49.wr W51).ext E54).wr W61).ext E64).keep Kq77).ext E78).keep Kq111).ext E125).keep Kq146).ext E147).keep Kq185).ext E194).keep Kq218).ext E219).keep Kq261).ext E271)
  have G275 := (((((((((((((((((((((((((((PF6.ext E14).keep Kq17 (ninS (oL PE2.lt sz_b14) nin0)).keep Kq18 (ninS (oL PE2.lt sz_b14) nin0)).keep Kq19 (ninS (oL PE2.lt sz_b14) nin0)).ext E20).keep K24 (ninS (oL PE2.lt sz_b20) nin0)).ext E25).keep K30 (ninS (oL PE2.lt sz_b25) (ninS (oL PE2.lt sz_b20) nin0))).ext E34).other W41 (Or.inr (sn_122_92 hw))).ext E43).other W51 (Or.inr (sn_122_94 hw))).ext E54).other W61 (Or.inr (sn_122_96 hw))).ext E64).keep Kq77 (ninS (oL PE2.lt sz_b64) nin0)).ext E78).keep Kq111 (ninS (oL PE2.lt sz_b78) (ninS (oL PE2.lt sz_x34a) (ninS (oL PE2.lt sz_x43a) (ninS (oL PE2.lt sz_b54) nin0))))).ext E125).keep Kq146 (ninS (oL PE2.lt sz_b125) nin0)).ext E147).keep Kq185 (ninS (oL PE2.lt sz_b147) (ninS (oL PE2.lt sz_x34b) (ninS (oL PE2.lt sz_x43b) (ninS (oL PE2.lt sz_b54) nin0))))).ext E194).keep Kq218 (ninS (oL PE2.lt sz_b194) nin0)).ext E219).keep Kq261 (ninS (oL PE2.lt sz_b219) (ninS (oL PE2.lt sz_x34c) (ninS (oL PE2.lt sz_x43c) (ninS (oL PE2.lt sz_b54) nin0))))).ext E271)
  obtain ⟨T276, h276, X276, e276, W276, st276⟩ := putF X271 hx hZ hown (host := "") (Or.inl (ow121 hw)) Via.refl e271 G275 G274 (Or.inr ⟨(ow122 hw), rfl, hnm⟩) (ow1 hw) (ty := (.array (.array .long))) (by decide) rfl rfl (g := (mkF m 351 #[oR b12, oI 1, oI 3, oR b14, oR b20, oI 3, oR b194, oI 3, oR b219, oI 2, oI 2, oI 0, oI 3] [vR b271, vR b12])) rfl rfl (hb hby d1_351)
  have Fw276 := Fld.same W276 G275
  have K276 : Keep h0 h276 [b12] := K271.wr W276 (Or.inl (List.mem_of_getElem? (i := 0) rfl))
  have N276 := Fr.snoc X276 N270 n_b12
  refine own_go (T' := T276) (f' := (mkF m 361 #[oR b12, oI 1, oI 3, oR b14, oR b20, oI 0, oR b194, oI 3, oR b219, oI 2, oI 2, oI 0, oI 3] [vR b20, vI 0])) (fun _ k => st276 _ (own_e X276 tt 354 4 k rfl)) ?_
  have G277 := ((((((((((G123.ext E125).keep Kq146).ext E147).keep Kq185).ext E194).keep Kq218).ext E219).keep Kq261).ext E271).wr W276)
  obtain ⟨cq278, kq278, q278a, q278b, q278c⟩ := isOf hZ e276 G277
  obtain ⟨_, T278, Lc278, X278, hQ278, st278⟩ := own_out (X276.interfaceBack hx (xi := mn11) (y := mn10) hown (mvT hZ (ow81 hw)) (mvT hZ (ow82 hw)) (mvT hZ (ow83 hw)) (mvT hZ (ow84 hw)) (mvT hZ (ow85 hw)) (mvT hZ (ow86 hw)) (mvT hZ (ow87 hw)) (mvT hZ (ow53 hw)) (by decide) (backOf (W := 1) (rm12a38 l Z a0 hw [] b20 h276 n0 (oT (oT (oT (oT Zs220 E219.1) Kq261.1) E271.1) (Keep.of_wr W276).1) ((G268.ext E271).other W276 (Or.inl (oM PE2.lt sz_b20)))) hZ (ow88 hw) (ow12 hw) (by decide) (by decide)) q278a q278b q278c (g := (mkF m 361 #[oR b12, oI 1, oI 3, oR b14, oR b20, oI 0, oR b194, oI 3, oR b219, oI 2, oI 2, oI 0, oI 3] [vR b20, vI 0])) rfl (by rw [hml]; rfl) (Steps.refl _) (argsL := []) (rest := [(.int (0 : Int32))]) (lenOf pd0 rfl) rfl (by show 2 * 0 + _ ≤ _; exact Nat.le_of_eq rfl) (hb hby d1_361) (fun _ _ => ⟨rfl, e276, (by decide : 23 + 0 ≤ _), (by decide : 70 + 0 ≤ _)⟩))
  obtain ⟨rfl, N278q, hh278⟩ := hQ278
  have N278 := Fr.app N276 N278q
  obtain ⟨_, X278, N278⟩ := own_hide X278 N278
  refine own_go (T' := T278) (f' := (mkF m 366 #[oR b12, oI 1, oI 3, oR b14, oR b20, oI 0, oR b194, oI 3, oR b219, oI 2, oI 2, oI 0, oI 3] [vI 3, vI 0])) (fun _ k => st278.trans k) ?_
  refine own_mrun2 (a0 := a0) (as := [b12, b14, b20, b194, b219, b271]) (kc := [0, 0, 0, 0, 0, 0]) (fl := [fE1_43 0 (vR 5)]) (cl := []) (wl := []) (ks := []) (na := 6) (ls := [oR 0, oI 1, oI 3, oR 1, oR 2, oI 0, oR 3, oI 3, oR 4, oI 2, oI 2, oI 0, oI 3]) (st := [vI 3, vI 0]) (me := []) (pc' := 377) (ls' := [oR 0, oI 1, oI 3, oR 1, oR 2, oI 0, oR 3, oI 3, oR 4, oI 2, oI 2, oI 0, oI 3]) (st' := [vI 0, vI 0, vR 5]) (ups := []) tt hZ hown X278 N278 hh278 (oA (ow121 hw) trivial) trivial (oA Fw276 trivial) trivial (Or.inl rfl) trivial rfl rfl (by decide +kernel) 5 (by decide +kernel) fun T279 h279 _ X279 N279 e279 K279 q279 M279 => ?_
  have e279 := e279.trans (q279 rfl)
  show own_Ends p e below s _ _ _ T279 (mkF m 377 #[oR b12, oI 1, oI 3, oR b14, oR b20, oI 0, oR b194, oI 3, oR b219, oI 2, oI 2, oI 0, oI 3] [vI 0, vI 0, vR b271])
  obtain ⟨T280, h280, k280, X280, e280, E280, A280, EA280, st280⟩ := newPE (aty := .long) X279 hx hZ (ow123 hw) e279 (g := (mkF m 377 #[oR b12, oI 1, oI 3, oR b14, oR b20, oI 0, oR b194, oI 3, oR b219, oI 2, oI 2, oI 0, oI 3] [vI 0, vI 0, vR b271])) rfl (hb hby d1_377) rfl (by decide) (cap := 0) (by decide) (by decide) (by decide) (by decide) (ad := "[J") (by decide +kernel)
  obtain ⟨b280, g_b280⟩ : ∃ z, z = h276.size := ⟨_, rfl⟩
  have sg_b280 : h276.size ≤ b280 := Nat.le_of_eq g_b280.symm
  rw [← g_b280] at A280 EA280 st280
  have n_b280 := oT (oT (oT (oT (oT Zs220 E219.1) Kq261.1) E271.1) (Keep.of_wr W276).1) sg_b280
  have sz_b280 := oT K276.1 sg_b280
  have u281 := (oW V_b271.lt (Keep.of_wr W276).1)
  have m282 : h261.size ≤ h276.size := (oT (oT (Nat.le_refl _) E271.1) (Keep.of_wr W276).1)
  have K280 : Keep h0 h280 [b12] := K276.ext E280
  have V_b280 : Arv Z h280 b280 k280 .long (0 : Int32) [] (.long (0 : Int64)) := Arv.new A280 (by decide)
  refine own_go (T' := T280) (f' := (mkF m 379 #[oR b12, oI 1, oI 3, oR b14, oR b20, oI 0, oR b194, oI 3, oR b219, oI 2, oI 2, oI 0, oI 3] [vR b280, vI 0, vR b271])) (fun _ k => st280 _ k) ?_
  obtain ⟨T283, h283, X283, e283, W283, V283, st283⟩ := own_stR X280 hx hZ e280 ((V_b271.other W276 (oM PE2.lt sz_b271)).ext E280) (j := (0 : Int32)) ⟨by decide, by decide⟩ rfl rfl (fun cl Ar q => Sto.ofVA Ar q O271 (Ins.self EA280)) 0 rfl (Nat.le_of_ble_eq_true rfl) (g := (mkF m 379 #[oR b12, oI 1, oI 3, oR b14, oR b20, oI 0, oR b194, oI 3, oR b219, oI 2, oI 2, oI 0, oI 3] [vR b280, vI 0, vR b271])) rfl rfl (hb hby d1_379)
  have K283 : Keep h0 h283 [b12] := K280.wr W283 (Or.inr sz_b271)
  have V283s : Arv Z h283 b271 k271 (.array .long) (3 : Int32) [(.ref b280), .null, .null] .null := V283
  have N283 := Fr.snoc X283 N279 n_b271
  refine own_go (T' := T283) (f' := (mkF m 361 #[oR b12, oI 1, oI 3, oR b14, oR b20, oI 1, oI 0, oI 3, oR b219, oI 2, oI 2, oI 0, oI 3] [vR b20, vI 1])) (fun _ k => st283 _ (own_e X283 tt 380 9 k rfl)) ?_
  have c284 := oT c266 m273
  have q285 := oL u27 (oT c284 sg_b271)
  have Zs286 : n0 ≤ h283.size := (oT (oT (oT (oT (oT (oT Zs220 E219.1) Kq261.1) E271.1) (Keep.of_wr W276).1) E280.1) (Keep.of_wr W283).1)
  obtain ⟨cq287, kq287, q287a, q287b, q287c⟩ := isOf hZ e283 ((G277.ext E280).wr W283)
  obtain ⟨_, T287, Lc287, X287, hQ287, st287⟩ := own_out (X283.interfaceBack hx (xi := mn11) (y := mn10) hown (mvT hZ (ow81 hw)) (mvT hZ (ow82 hw)) (mvT hZ (ow83 hw)) (mvT hZ (ow84 hw)) (mvT hZ (ow85 hw)) (mvT hZ (ow86 hw)) (mvT hZ (ow87 hw)) (mvT hZ (ow53 hw)) (by decide) (backOf (W := 1) (rm12a38 l Z a0 hw [] b20 h283 n0 Zs286 ((((G268.ext E271).other W276 (Or.inl (oM PE2.lt sz_b20))).ext E280).other W283 (Or.inl q285))) hZ (ow88 hw) (ow12 hw) (by decide) (by decide)) q287a q287b q287c (g := (mkF m 361 #[oR b12, oI 1, oI 3, oR b14, oR b20, oI 1, oI 0, oI 3, oR b219, oI 2, oI 2, oI 0, oI 3] [vR b20, vI 1])) rfl (by rw [hml]; rfl) (Steps.refl _) (argsL := []) (rest := [(.int (1 : Int32))]) (lenOf pd0 rfl) rfl (by show 2 * 0 + _ ≤ _; exact Nat.le_of_eq rfl) (hb hby d1_361) (fun _ _ => ⟨rfl, e283, (by decide : 24 + 0 ≤ _), (by decide : 70 + 0 ≤ _)⟩))
  obtain ⟨rfl, N287q, hh287⟩ := hQ287
  have N287 := Fr.app N283 N287q
  obtain ⟨_, X287, N287⟩ := own_hide X287 N287
  refine own_go (T' := T287) (f' := (mkF m 366 #[oR b12, oI 1, oI 3, oR b14, oR b20, oI 1, oI 0, oI 3, oR b219, oI 2, oI 2, oI 0, oI 3] [vI 3, vI 1])) (fun _ k => st287.trans k) ?_
  refine own_mrun2 (a0 := a0) (as := [b12, b14, b20, b219, b271]) (kc := [0, 0, 0, 0, 0]) (fl := [fE1_43 0 (vR 4)]) (cl := []) (wl := []) (ks := []) (na := 5) (ls := [oR 0, oI 1, oI 3, oR 1, oR 2, oI 1, oI 0, oI 3, oR 3, oI 2, oI 2, oI 0, oI 3]) (st := [vI 3, vI 1]) (me := []) (pc' := 377) (ls' := [oR 0, oI 1, oI 3, oR 1, oR 2, oI 1, oI 0, oI 3, oR 3, oI 2, oI 2, oI 0, oI 3]) (st' := [vI 1, vI 1, vR 4]) (ups := []) tt hZ hown X287 N287 hh287 (oA (ow121 hw) trivial) trivial (oA ((Fw276.ext E280).other W283 (Or.inl (oL PE2.lt sz_b271))) trivial) trivial (Or.inl rfl) trivial rfl rfl (by decide +kernel) 5 (by decide +kernel) fun T288 h288 _ X288 N288 e288 K288 q288 M288 => ?_
  have e288 := e288.trans (q288 rfl)
  show own_Ends p e below s _ _ _ T288 (mkF m 377 #[oR b12, oI 1, oI 3, oR b14, oR b20, oI 1, oI 0, oI 3, oR b219, oI 2, oI 2, oI 0, oI 3] [vI 1, vI 1, vR b271])
  obtain ⟨T289, h289, k289, X289, e289, E289, A289, EA289, st289⟩ := newPE (aty := .long) X288 hx hZ (ow123 hw) e288 (g := (mkF m 377 #[oR b12, oI 1, oI 3, oR b14, oR b20, oI 1, oI 0, oI 3, oR b219, oI 2, oI 2, oI 0, oI 3] [vI 1, vI 1, vR b271])) rfl (hb hby d1_377) rfl (by decide) (cap := 1) (by decide) (by decide) (by decide) (by decide) (ad := "[J") (by decide +kernel)
  obtain ⟨b289, g_b289⟩ : ∃ z, z = h283.size := ⟨_, rfl⟩
  have sg_b289 : h283.size ≤ b289 := Nat.le_of_eq g_b289.symm
  rw [← g_b289] at A289 EA289 st289
  have n_b289 := oT Zs286 sg_b289
  have sz_b289 := oT K283.1 sg_b289
  have u290 := (oW V_b280.lt (Keep.of_wr W283).1)
  have m291 : h276.size ≤ h283.size := (oT (oT (Nat.le_refl _) E280.1) (Keep.of_wr W283).1)
  have K289 : Keep h0 h289 [b12] := K283.ext E289
  have V_b289 : Arv Z h289 b289 k289 .long (1 : Int32) [(.long (0 : Int64))] (.long (0 : Int64)) := (Arv.new A289 (by decide)).pad (pad_rep [] (.long (0 : Int64)) 1)
  refine own_go (T' := T289) (f' := (mkF m 379 #[oR b12, oI 1, oI 3, oR b14, oR b20, oI 1, oI 0, oI 3, oR b219, oI 2, oI 2, oI 0, oI 3] [vR b289, vI 1, vR b271])) (fun _ k => st289 _ k) ?_
  obtain ⟨T292, h292, X292, e292, W292, V292, st292⟩ := own_stR X289 hx hZ e289 (V283s.ext E289) (j := (1 : Int32)) ⟨by decide, by decide⟩ rfl rfl (fun cl Ar q => Sto.ofVA Ar q O271 (Ins.self EA289)) 1 rfl (Nat.le_of_ble_eq_true rfl) (g := (mkF m 379 #[oR b12, oI 1, oI 3, oR b14, oR b20, oI 1, oI 0, oI 3, oR b219, oI 2, oI 2, oI 0, oI 3] [vR b289, vI 1, vR b271])) rfl rfl (hb hby d1_379)
  have K292 : Keep h0 h292 [b12] := K289.wr W292 (Or.inr sz_b271)
  have V292s : Arv Z h292 b271 k271 (.array .long) (3 : Int32) [(.ref b280), (.ref b289), .null] .null := V292
  have N292 := Fr.snoc X292 N288 n_b271
  refine own_go (T' := T292) (f' := (mkF m 380 #[oR b12, oI 1, oI 3, oR b14, oR b20, oI 1, oI 0, oI 3, oR b219, oI 2, oI 2, oI 0, oI 3] [])) (fun _ k => st292 _ k) ?_
  refine own_mrun2 (a0 := a0) (as := [b12, b14, b20, b219, b271, b280, b289]) (kc := [0, 0, 0, 0, k271, 0, 0]) (fl := [fE1_43 0 (vR 4)]) (cl := []) (wl := []) (ks := [4]) (na := 7) (ls := [oR 0, oI 1, oI 3, oR 1, oR 2, oI 1, oI 0, oI 3, oR 3, oI 2, oI 2, oI 0, oI 3]) (st := []) (me := [(4, (.array .long), 3, [vR 5, vR 6, .null])]) (pc' := 405) (ls' := [oR 0, oI 1, oI 3, oR 1, oR 2, oI 1, oI 0, oI 3, oR 3, oI 2, oI 2, oI 0, oI 3]) (st' := [vI 0, vR 0, vI 1, vR 0, vI 0, vR 6]) (ups := []) tt hZ hown X292 N292 e292 (oA (ow121 hw) trivial) trivial (oA ((((Fw276.ext E280).other W283 (Or.inl (oL PE2.lt sz_b271))).ext E289).other W292 (Or.inl (oL PE2.lt sz_b271))) trivial) (oA V292s trivial) (Or.inl rfl) trivial rfl rfl (by decide +kernel) 14 (by decide +kernel) fun T293 h293 _ X293 N293 e293 K293 q293 M293 => ?_
  have e293 := e293.trans (q293 rfl)
  show own_Ends p e below s _ _ _ T293 (mkF m 405 #[oR b12, oI 1, oI 3, oR b14, oR b20, oI 1, oI 0, oI 3, oR b219, oI 2, oI 2, oI 0, oI 3] [vI 0, vR b12, vI 1, vR b12, vI 0, vR b289])
  have G294 := (((((((G256.keep Kq261 (ninS (oL PE2.lt sz_b219) (ninS (oL PE2.lt sz_x34c) (ninS (oL PE2.lt sz_x43c) (ninS (oL PE2.lt sz_b54) nin0))))).ext E271).other W276 (Or.inr (sn_92_122 hw))).ext E280).other W283 (Or.inl (oL PE2.lt sz_b271))).ext E289).other W292 (Or.inl (oL PE2.lt sz_b271)))
  have G295 := (((((((G257.keep Kq261 (ninS (oL PE2.lt sz_b219) (ninS (oL PE2.lt sz_x34c) (ninS (oL PE2.lt sz_x43c) (ninS (oL PE2.lt sz_b54) nin0))))).ext E271).other W276 (Or.inr (sn_94_122 hw))).ext E280).other W283 (Or.inl (oL PE2.lt sz_b271))).ext E289).other W292 (Or.inl (oL PE2.lt sz_b271)))
  have G296 := (((((((G258.keep Kq261 (ninS (oL PE2.lt sz_b219) (ninS (oL PE2.lt sz_x34c) (ninS (oL PE2.lt sz_x43c) (ninS (oL PE2.lt sz_b54) nin0))))).ext E271).other W276 (Or.inr (sn_96_122 hw))).ext E280).other W283 (Or.inl (oL PE2.lt sz_b271))).ext E289).other W292 (Or.inl (oL PE2.lt sz_b271)))
  have c297 := oT c225 m222
  have q298 := oL u44 (oT c297 sg_b219)
  have c299 := oT c297 m273
  have q300 := oL u44 (oT c299 sg_b271)
  have G301 := (((((((G227.keep Kq261 (ninS q298 (ninS (Ne.symm nn_x34c_b34) (ninS (oL u44 sg_x43c) (ninS q150 nin0))))).ext E271).other W276 (oM PE2.lt sz_b34)).ext E280).other W283 q300).ext E289).other W292 q300)
  have q302 := oL u45 (oT c153 sg_b125)
  have q303 := oL u45 (oT m59 sg_b54)
  have q304 := oL u45 (oT c223 sg_b147)
  have q305 := oL u45 (oT c225 sg_b194)
  have q306 := oL u45 (oT c297 sg_b219)
  have q307 := oL u45 (oT c299 sg_b271)
  have G308 := ((((((((((((((V111_4.ext E125).keep Kq146 (ninS q302 nin0)).ext E147).keep Kq185 (ninS q304 (ninS (Ne.symm nn_x34b_x34a) (ninS (oL u45 sg_x43b) (ninS q303 nin0))))).ext E194).keep Kq218 (ninS q305 nin0)).ext E219).keep Kq261 (ninS q306 (ninS (Ne.symm nn_x34c_x34a) (ninS (oL u45 sg_x43c) (ninS q303 nin0))))).ext E271).other W276 (oM PE2.lt sz_x34a)).ext E280).other W283 q307).ext E289).other W292 q307)
  have c309 := oT c244 m222
  have q310 := oL u55 (oT c309 sg_b219)
  have c311 := oT c309 m273
  have q312 := oL u55 (oT c311 sg_b271)
  have G313 := (((((((G246.keep Kq261 (ninS q310 (ninS (oM u47 sg_b43) (ninS (Ne.symm nn_x43c_b43) (ninS (oL u55 sg_b54) nin0))))).ext E271).other W276 (oM PE2.lt sz_b43)).ext E280).other W283 q312).ext E289).other W292 q312)
  have q314 := oL u56 (oT c171 sg_b125)
  have q315 := oL u56 (oT c242 sg_b147)
  have q316 := oL u56 (oT c244 sg_b194)
  have q317 := oL u56 (oT c309 sg_b219)
  have q318 := oL u56 (oT c311 sg_b271)
  have G319 := ((((((((((((((V111_6.ext E125).keep Kq146 (ninS q314 nin0)).ext E147).keep Kq185 (ninS q315 (ninS (oM u46 sg_x43a) (ninS (Ne.symm nn_x43b_x43a) (ninS (oL u56 sg_b54) nin0))))).ext E194).keep Kq218 (ninS q316 nin0)).ext E219).keep Kq261 (ninS q317 (ninS (oM u47 sg_x43a) (ninS (Ne.symm nn_x43c_x43a) (ninS (oL u56 sg_b54) nin0))))).ext E271).other W276 (oM PE2.lt sz_x43a)).ext E280).other W283 q318).ext E289).other W292 q318)
  have c320 := oT c254 m222
  have c321 := oT c320 m273
  have q322 := oL u65 (oT c321 sg_b271)
  obtain ⟨cq323, q323, q323'⟩ := (((((G274.wr W276).ext E280).wr W283).ext E289).wr W292).cell
  obtain ⟨_, T323, Lc323, X323, hQ323, st323⟩ := own_out (X293.privateBack hx (y := mn17) hown (mvT hZ (ow125 hw)) (mvT hZ (ow126 hw)) (own_seli (mvT hZ (ow1 hw)) (Cond.privateMethod_at (mvP hZ (ow127 hw) (args := #[]))) (mvT hZ (ow126 hw)) (by decide)) (Cond.privateMethod_at (mvP hZ (ow127 hw) (args := #[]))) (mvT hZ (ow128 hw)) (by decide) (backOf (W := 4) (rm17a51 l Z a0 hw [] b12 b34 b43 b54 k34 x34a x34b x34c kc34 k43 x43a x43b x43c kc43 k54 h292 n0 (oT (oT Zs286 E289.1) (Keep.of_wr W292).1) G294 G295 G296 G301 G308 G313 G319 ((((((V261_7.ext E271).other W276 (oM PE2.lt sz_b54)).ext E280).other W283 q322).ext E289).other W292 q322)) hZ (ow128 hw) (ow2 hw) (by decide) (by decide)) (g := (mkF m 405 #[oR b12, oI 1, oI 3, oR b14, oR b20, oI 1, oI 0, oI 3, oR b219, oI 2, oI 2, oI 0, oI 3] [vI 0, vR b12, vI 1, vR b12, vI 0, vR b289])) rfl (by rw [hml]; rfl) (Steps.refl _) (a := b12) (by rw [e293]; exact q323) q323' (argsL := [(.int (0 : Int32))]) (rest := [(.int (1 : Int32)), (.ref b12), (.int (0 : Int32)), (.ref b289)]) (lenOf pd4 rfl) rfl (by show 2 * 0 + _ ≤ _; exact Nat.le_of_eq rfl) (hb hby d1_405) (fun _ _ => ⟨rfl, e293, (by decide : 25 + 0 ≤ _), (by decide : 71 + 0 ≤ _)⟩))
  obtain ⟨rfl, N323q, hh323⟩ := hQ323
  have N323 := Fr.app N293 N323q
  obtain ⟨_, X323, N323⟩ := own_hide X323 N323
  refine own_go (T' := T323) (f' := (mkF m 408 #[oR b12, oI 1, oI 3, oR b14, oR b20, oI 1, oI 0, oI 3, oR b219, oI 2, oI 2, oI 0, oI 3] [(.long (-2097152 : Int64)), vI 1, vR b12, vI 0, vR b289])) (fun _ k => st323.trans k) ?_
  have q324 := oL u46 (oT c225 sg_b194)
  have q325 := oL u46 (oT c297 sg_b219)
  have q326 := oL u46 (oT c299 sg_b271)
  have G327 := ((((((((((V185_4.ext E194).keep Kq218 (ninS q324 nin0)).ext E219).keep Kq261 (ninS q325 (ninS (Ne.symm nn_x34c_x34b) (ninS (oL u46 sg_x43c) (ninS q165 nin0))))).ext E271).other W276 (oM PE2.lt sz_x34b)).ext E280).other W283 q326).ext E289).other W292 q326)
  have q328 := oL u57 (oT c244 sg_b194)
  have q329 := oL u57 (oT c309 sg_b219)
  have q330 := oL u57 (oT c311 sg_b271)
  have G331 := ((((((((((V185_6.ext E194).keep Kq218 (ninS q328 nin0)).ext E219).keep Kq261 (ninS q329 (ninS (oM u47 sg_x43b) (ninS (Ne.symm nn_x43c_x43b) (ninS (oL u57 sg_b54) nin0))))).ext E271).other W276 (oM PE2.lt sz_x43b)).ext E280).other W283 q330).ext E289).other W292 q330)
  obtain ⟨cq332, kq332, q332a, q332b, q332c⟩ := isOf hZ hh323 (((((G274.wr W276).ext E280).wr W283).ext E289).wr W292)
  obtain ⟨_, T332, Lc332, X332, hQ332, st332⟩ := own_out (X323.virtualBack hx (y := mn18) (z := mn18) hown (mvT hZ (ow130 hw)) (mvT hZ (ow131 hw)) (notFace_of_selects (args := #[]) (mvT hZ (ow133 hw))) (mvT hZ (ow133 hw)) (mvT hZ (ow132 hw)) (by decide) (backOf (W := 2) (rm18a52 l Z a0 hw [] b12 b34 b43 k34 x34a x34b x34c kc34 k43 x43a x43b x43c kc43 h292 n0 (oT (oT Zs286 E289.1) (Keep.of_wr W292).1) G294 G295 G301 G327 G313 G331) hZ (ow134 hw) (ow2 hw) (by decide) (by decide)) q332a q332c (g := (mkF m 408 #[oR b12, oI 1, oI 3, oR b14, oR b20, oI 1, oI 0, oI 3, oR b219, oI 2, oI 2, oI 0, oI 3] [(.long (-2097152 : Int64)), vI 1, vR b12, vI 0, vR b289])) rfl (by rw [hml]; rfl) (Steps.refl _) (argsL := [(.int (1 : Int32)), (.long (-2097152 : Int64))]) (rest := [(.int (0 : Int32)), (.ref b289)]) (lenOf pd11 rfl) rfl (by show 2 * 0 + _ ≤ _; exact Nat.le_of_eq rfl) (hb hby d1_408) (fun _ _ => ⟨rfl, hh323, (by decide : 25 + 0 ≤ _), (by decide : 71 + 0 ≤ _)⟩))
  obtain ⟨rfl, N332q, hh332⟩ := hQ332
  have N332 := Fr.app N323 N332q
  obtain ⟨_, X332, N332⟩ := own_hide X332 N332
  refine own_go (T' := T332) (f' := (mkF m 411 #[oR b12, oI 1, oI 3, oR b14, oR b20, oI 1, oI 0, oI 3, oR b219, oI 2, oI 2, oI 0, oI 3] [(.long (-4398044413953 : Int64)), vI 0, vR b289])) (fun _ k => st332.trans k) ?_
  have q333 := oM u281 (oT m291 sg_b289)
  obtain ⟨T334, h334, X334, e334, W334, V334, st334⟩ := own_stJ X332 hx hZ hh332 (V_b289.other W292 q333) (j := (0 : Int32)) ⟨by decide, by decide⟩ 0 rfl (Nat.le_of_ble_eq_true rfl) (g := (mkF m 411 #[oR b12, oI 1, oI 3, oR b14, oR b20, oI 1, oI 0, oI 3, oR b219, oI 2, oI 2, oI 0, oI 3] [(.long (-4398044413953 : Int64)), vI 0, vR b289])) rfl rfl (hb hby d1_411)
  have K334 : Keep h0 h334 [b12] := K292.wr W334 (Or.inr sz_b289)
  have V334s : Arv Z h334 b289 k289 .long (1 : Int32) [(.long (-4398044413953 : Int64))] (.long (0 : Int64)) := V334
  have N334 := Fr.snoc X334 N332 n_b289
  refine own_go (T' := T334) (f' := (mkF m 361 #[oR b12, oI 1, oI 3, oR b14, oR b20, oI 2, oI 1, oI 3, oR b219, oI 2, oI 2, oI 0, oI 3] [vR b20, vI 2])) (fun _ k => st334 _ (own_e X334 tt 412 9 k rfl)) ?_
  have c335 := oT c284 m282
  have c336 := oT c335 m291
  have q337 := oL u27 (oT c336 sg_b289)
  have G338 := (((((((G268.ext E271).other W276 (Or.inl (oM PE2.lt sz_b20))).ext E280).other W283 (Or.inl q285)).ext E289).other W292 (Or.inl q285)).other W334 (Or.inl q337))
  obtain ⟨cq339, kq339, q339a, q339b, q339c⟩ := isOf hZ e334 (((((G277.ext E280).wr W283).ext E289).wr W292).wr W334)
  obtain ⟨_, T339, Lc339, X339, hQ339, st339⟩ := own_out (X334.interfaceBack hx (xi := mn11) (y := mn10) hown (mvT hZ (ow81 hw)) (mvT hZ (ow82 hw)) (mvT hZ (ow83 hw)) (mvT hZ (ow84 hw)) (mvT hZ (ow85 hw)) (mvT hZ (ow86 hw)) (mvT hZ (ow87 hw)) (mvT hZ (ow53 hw)) (by decide) (backOf (W := 1) (rm12a38 l Z a0 hw [] b20 h334 n0 (oT (oT (oT Zs286 E289.1) (Keep.of_wr W292).1) (Keep.of_wr W334).1) G338) hZ (ow88 hw) (ow12 hw) (by decide) (by decide)) q339a q339b q339c (g := (mkF m 361 #[oR b12, oI 1, oI 3, oR b14, oR b20, oI 2, oI 1, oI 3, oR b219, oI 2, oI 2, oI 0, oI 3] [vR b20, vI 2])) rfl (by rw [hml]; rfl) (Steps.refl _) (argsL := []) (rest := [(.int (2 : Int32))]) (lenOf pd0 rfl) rfl (by show 2 * 0 + _ ≤ _; exact Nat.le_of_eq rfl) (hb hby d1_361) (fun _ _ => ⟨rfl, e334, (by decide : 25 + 0 ≤ _), (by decide : 71 + 0 ≤ _)⟩))
  obtain ⟨rfl, N339q, hh339⟩ := hQ339
  have N339 := Fr.app N334 N339q
  obtain ⟨_, X339, N339⟩ := own_hide X339 N339
  refine own_go (T' := T339) (f' := (mkF m 366 #[oR b12, oI 1, oI 3, oR b14, oR b20, oI 2, oI 1, oI 3, oR b219, oI 2, oI 2, oI 0, oI 3] [vI 3, vI 2])) (fun _ k => st339.trans k) ?_
  have G340 := (((((Fw276.ext E280).other W283 (Or.inl (oL PE2.lt sz_b271))).ext E289).other W292 (Or.inl (oL PE2.lt sz_b271))).other W334 (Or.inl (oL PE2.lt sz_b289)))
  refine own_mrun2 (a0 := a0) (as := [b12, b14, b20, b219, b271]) (kc := [0, 0, 0, 0, 0]) (fl := [fE1_43 0 (vR 4)]) (cl := []) (wl := []) (ks := []) (na := 5) (ls := [oR 0, oI 1, oI 3, oR 1, oR 2, oI 2, oI 1, oI 3, oR 3, oI 2, oI 2, oI 0, oI 3]) (st := [vI 3, vI 2]) (me := []) (pc' := 377) (ls' := [oR 0, oI 1, oI 3, oR 1, oR 2, oI 2, oI 1, oI 3, oR 3, oI 2, oI 2, oI 0, oI 3]) (st' := [vI 2, vI 2, vR 4]) (ups := []) tt hZ hown X339 N339 hh339 (oA (ow121 hw) trivial) trivial (oA G340 trivial) trivial (Or.inl rfl) trivial rfl rfl (by decide +kernel) 5 (by decide +kernel) fun T341 h341 _ X341 N341 e341 K341 q341 M341 => ?_
  have e341 := e341.trans (q341 rfl)
  show own_Ends p e below s _ _ _ T341 (mkF m 377 #[oR b12, oI 1, oI 3, oR b14, oR b20, oI 2, oI 1, oI 3, oR b219, oI 2, oI 2, oI 0, oI 3] [vI 2, vI 2, vR b271])
  obtain ⟨T342, h342, k342, X342, e342, E342, A342, EA342, st342⟩ := newPE (aty := .long) X341 hx hZ (ow123 hw) e341 (g := (mkF m 377 #[oR b12, oI 1, oI 3, oR b14, oR b20, oI 2, oI 1, oI 3, oR b219, oI 2, oI 2, oI 0, oI 3] [vI 2, vI 2, vR b271])) rfl (hb hby d1_377) rfl (by decide) (cap := 2) (by decide) (by decide) (by decide) (by decide) (ad := "[J") (by decide +kernel)
  obtain ⟨b342, g_b342⟩ : ∃ z, z = h334.size := ⟨_, rfl⟩
  have sg_b342 : h334.size ≤ b342 := Nat.le_of_eq g_b342.symm
  rw [← g_b342] at A342 EA342 st342
  have n_b342 := oT (oT (oT (oT Zs286 E289.1) (Keep.of_wr W292).1) (Keep.of_wr W334).1) sg_b342
  have sz_b342 := oT K334.1 sg_b342
  have u343 := (oW (oW V_b289.lt (Keep.of_wr W292).1) (Keep.of_wr W334).1)
  have m344 : h283.size ≤ h334.size := (oT (oT (oT (Nat.le_refl _) E289.1) (Keep.of_wr W292).1) (Keep.of_wr W334).1)
  have K342 : Keep h0 h342 [b12] := K334.ext E342
  have V_b342 : Arv Z h342 b342 k342 .long (2 : Int32) [(.long (0 : Int64)), (.long (0 : Int64))] (.long (0 : Int64)) := (Arv.new A342 (by decide)).pad (pad_rep [] (.long (0 : Int64)) 2)
  refine own_go (T' := T342) (f' := (mkF m 379 #[oR b12, oI 1, oI 3, oR b14, oR b20, oI 2, oI 1, oI 3, oR b219, oI 2, oI 2, oI 0, oI 3] [vR b342, vI 2, vR b271])) (fun _ k => st342 _ k) ?_
  obtain ⟨T345, h345, X345, e345, W345, V345, st345⟩ := own_stR X342 hx hZ e342 ((V292s.other W334 (Ne.symm q333)).ext E342) (j := (2 : Int32)) ⟨by decide, by decide⟩ rfl rfl (fun cl Ar q => Sto.ofVA Ar q O271 (Ins.self EA342)) 2 rfl (Nat.le_of_ble_eq_true rfl) (g := (mkF m 379 #[oR b12, oI 1, oI 3, oR b14, oR b20, oI 2, oI 1, oI 3, oR b219, oI 2, oI 2, oI 0, oI 3] [vR b342, vI 2, vR b271])) rfl rfl (hb hby d1_379)
  have K345 : Keep h0 h345 [b12] := K342.wr W345 (Or.inr sz_b271)
  have V345s : Arv Z h345 b271 k271 (.array .long) (3 : Int32) [(.ref b280), (.ref b289), (.ref b342)] .null := V345
  have N345 := Fr.snoc X345 N341 n_b271
  refine own_go (T' := T345) (f' := (mkF m 380 #[oR b12, oI 1, oI 3, oR b14, oR b20, oI 2, oI 1, oI 3, oR b219, oI 2, oI 2, oI 0, oI 3] [])) (fun _ k => st345 _ k) ?_
  refine own_mrun2 (a0 := a0) (as := [b12, b14, b20, b219, b271, b280, b289, b342]) (kc := [0, 0, 0, 0, k271, 0, 0, 0]) (fl := [fE1_43 0 (vR 4)]) (cl := []) (wl := []) (ks := [4]) (na := 8) (ls := [oR 0, oI 1, oI 3, oR 1, oR 2, oI 2, oI 1, oI 3, oR 3, oI 2, oI 2, oI 0, oI 3]) (st := []) (me := [(4, (.array .long), 3, [vR 5, vR 6, vR 7])]) (pc' := 405) (ls' := [oR 0, oI 1, oI 3, oR 1, oR 2, oI 2, oI 0, oI 3, oR 3, oI 2, oI 2, oI 0, oI 3]) (st' := [vI 0, vR 0, vI 2, vR 0, vI 0, vR 7]) (ups := []) tt hZ hown X345 N345 e345 (oA (ow121 hw) trivial) trivial (oA ((G340.ext E342).other W345 (Or.inl (oL PE2.lt sz_b271))) trivial) (oA V345s trivial) (Or.inl rfl) trivial rfl rfl (by decide +kernel) 14 (by decide +kernel) fun T346 h346 _ X346 N346 e346 K346 q346 M346 => ?_
  have e346 := e346.trans (q346 rfl)
  show own_Ends p e below s _ _ _ T346 (mkF m 405 #[oR b12, oI 1, oI 3, oR b14, oR b20, oI 2, oI 0, oI 3, oR b219, oI 2, oI 2, oI 0, oI 3] [vI 0, vR b12, vI 2, vR b12, vI 0, vR b342])
  have c347 := oT c299 m282
  have c348 := oT c347 m291
  have q349 := oL u44 (oT c348 sg_b289)
  have q350 := oL u45 (oT c348 sg_b289)
  have c351 := oT c311 m282
  have c352 := oT c351 m291
  have q353 := oL u55 (oT c352 sg_b289)
  have q354 := oL u56 (oT c352 sg_b289)
  have c355 := oT c321 m282
  have c356 := oT c355 m291
  have q357 := oL u65 (oT c356 sg_b289)
  have G358 := (((((((((V261_7.ext E271).other W276 (oM PE2.lt sz_b54)).ext E280).other W283 q322).ext E289).other W292 q322).other W334 q357).ext E342).other W345 q322)
  have Zs359 : n0 ≤ h345.size := (oT (oT (oT (oT (oT Zs286 E289.1) (Keep.of_wr W292).1) (Keep.of_wr W334).1) E342.1) (Keep.of_wr W345).1)
  obtain ⟨cq360, q360, q360'⟩ := ((((((((G274.wr W276).ext E280).wr W283).ext E289).wr W292).wr W334).ext E342).wr W345).cell
  obtain ⟨_, T360, Lc360, X360, hQ360, st360⟩ := own_out (X346.privateBack hx (y := mn17) hown (mvT hZ (ow125 hw)) (mvT hZ (ow126 hw)) (own_seli (mvT hZ (ow1 hw)) (Cond.privateMethod_at (mvP hZ (ow127 hw) (args := #[]))) (mvT hZ (ow126 hw)) (by decide)) (Cond.privateMethod_at (mvP hZ (ow127 hw) (args := #[]))) (mvT hZ (ow128 hw)) (by decide) (backOf (W := 4) (rm17a51 l Z a0 hw [] b12 b34 b43 b54 k34 x34a x34b x34c kc34 k43 x43a x43b x43c kc43 k54 h345 n0 Zs359 (((G294.other W334 (Or.inl (oL PE2.lt sz_b289))).ext E342).other W345 (Or.inl (oL PE2.lt sz_b271))) (((G295.other W334 (Or.inl (oL PE2.lt sz_b289))).ext E342).other W345 (Or.inl (oL PE2.lt sz_b271))) (((G296.other W334 (Or.inl (oL PE2.lt sz_b289))).ext E342).other W345 (Or.inl (oL PE2.lt sz_b271))) (((G301.other W334 q349).ext E342).other W345 q300) (((G308.other W334 q350).ext E342).other W345 q307) (((G313.other W334 q353).ext E342).other W345 q312) (((G319.other W334 q354).ext E342).other W345 q318) G358) hZ (ow128 hw) (ow2 hw) (by decide) (by decide)) (g := (mkF m 405 #[oR b12, oI 1, oI 3, oR b14, oR b20, oI 2, oI 0, oI 3, oR b219, oI 2, oI 2, oI 0, oI 3] [vI 0, vR b12, vI 2, vR b12, vI 0, vR b342])) rfl (by rw [hml]; rfl) (Steps.refl _) (a := b12) (by rw [e346]; exact q360) q360' (argsL := [(.int (0 : Int32))]) (rest := [(.int (2 : Int32)), (.ref b12), (.int (0 : Int32)), (.ref b342)]) (lenOf pd4 rfl) rfl (by show 2 * 0 + _ ≤ _; exact Nat.le_of_eq rfl) (hb hby d1_405) (fun _ _ => ⟨rfl, e346, (by decide : 26 + 0 ≤ _), (by decide : 73 + 0 ≤ _)⟩))
  obtain ⟨rfl, N360q, hh360⟩ := hQ360
  have N360 := Fr.app N346 N360q
  obtain ⟨_, X360, N360⟩ := own_hide X360 N360
  refine own_go (T' := T360) (f' := (mkF m 408 #[oR b12, oI 1, oI 3, oR b14, oR b20, oI 2, oI 0, oI 3, oR b219, oI 2, oI 2, oI 0, oI 3] [(.long (-2097152 : Int64)), vI 2, vR b12, vI 0, vR b342])) (fun _ k => st360.trans k) ?_
  have q361 := oL u47 (oT c299 sg_b271)
  have q362 := oL u47 (oT c348 sg_b289)
  have G363 := (((((((((V261_4.ext E271).other W276 (oM PE2.lt sz_x34c)).ext E280).other W283 q361).ext E289).other W292 q361).other W334 q362).ext E342).other W345 q361)
  have q364 := oL u58 (oT c311 sg_b271)
  have q365 := oL u58 (oT c352 sg_b289)
  have G366 := (((((((((V261_6.ext E271).other W276 (oM PE2.lt sz_x43c)).ext E280).other W283 q364).ext E289).other W292 q364).other W334 q365).ext E342).other W345 q364)
  obtain ⟨cq367, kq367, q367a, q367b, q367c⟩ := isOf hZ hh360 ((((((((G274.wr W276).ext E280).wr W283).ext E289).wr W292).wr W334).ext E342).wr W345)
  obtain ⟨_, T367, Lc367, X367, hQ367, st367⟩ := own_out (X360.virtualBack hx (y := mn18) (z := mn18) hown (mvT hZ (ow130 hw)) (mvT hZ (ow131 hw)) (notFace_of_selects (args := #[]) (mvT hZ (ow133 hw))) (mvT hZ (ow133 hw)) (mvT hZ (ow132 hw)) (by decide) (backOf (W := 2) (rm18a53 l Z a0 hw [] b12 b34 b43 k34 x34a x34b x34c kc34 k43 x43a x43b x43c kc43 h345 n0 Zs359 (((G294.other W334 (Or.inl (oL PE2.lt sz_b289))).ext E342).other W345 (Or.inl (oL PE2.lt sz_b271))) (((G295.other W334 (Or.inl (oL PE2.lt sz_b289))).ext E342).other W345 (Or.inl (oL PE2.lt sz_b271))) (((G301.other W334 q349).ext E342).other W345 q300) G363 (((G313.other W334 q353).ext E342).other W345 q312) G366) hZ (ow134 hw) (ow2 hw) (by decide) (by decide)) q367a q367c (g := (mkF m 408 #[oR b12, oI 1, oI 3, oR b14, oR b20, oI 2, oI 0, oI 3, oR b219, oI 2, oI 2, oI 0, oI 3] [(.long (-2097152 : Int64)), vI 2, vR b12, vI 0, vR b342])) rfl (by rw [hml]; rfl) (Steps.refl _) (argsL := [(.int (2 : Int32)), (.long (-2097152 : Int64))]) (rest := [(.int (0 : Int32)), (.ref b342)]) (lenOf pd11 rfl) rfl (by show 2 * 0 + _ ≤ _; exact Nat.le_of_eq rfl) (hb hby d1_408) (fun _ _ => ⟨rfl, hh360, (by decide : 26 + 0 ≤ _), (by decide : 73 + 0 ≤ _)⟩))
  obtain ⟨rfl, N367q, hh367⟩ := hQ367
  have N367 := Fr.app N360 N367q
  obtain ⟨_, X367, N367⟩ := own_hide X367 N367
  refine own_go (T' := T367) (f' := (mkF m 411 #[oR b12, oI 1, oI 3, oR b14, oR b20, oI 2, oI 0, oI 3, oR b219, oI 2, oI 2, oI 0, oI 3] [(.long (-8796088827905 : Int64)), vI 0, vR b342])) (fun _ k => st367.trans k) ?_
  have c368 := oT m291 m344
  have q369 := oM u281 (oT c368 sg_b342)
  obtain ⟨T370, h370, X370, e370, W370, V370, st370⟩ := own_stJ X367 hx hZ hh367 (V_b342.other W345 q369) (j := (0 : Int32)) ⟨by decide, by decide⟩ 0 rfl (Nat.le_of_ble_eq_true rfl) (g := (mkF m 411 #[oR b12, oI 1, oI 3, oR b14, oR b20, oI 2, oI 0, oI 3, oR b219, oI 2, oI 2, oI 0, oI 3] [(.long (-8796088827905 : Int64)), vI 0, vR b342])) rfl rfl (hb hby d1_411)
  have K370 : Keep h0 h370 [b12] := K345.wr W370 (Or.inr sz_b342)
  have V370s : Arv Z h370 b342 k342 .long (2 : Int32) [(.long (-8796088827905 : Int64)), (.long (0 : Int64))] (.long (0 : Int64)) := V370
  have N370 := Fr.snoc X370 N367 n_b342
  refine own_go (T' := T370) (f' := (mkF m 412 #[oR b12, oI 1, oI 3, oR b14, oR b20, oI 2, oI 0, oI 3, oR b219, oI 2, oI 2, oI 0, oI 3] [])) (fun _ k => st370 _ k) ?_
  refine own_mrun2 (a0 := a0) (as := [b12, b14, b20, b219, b271, b280, b289, b342]) (kc := [0, 0, 0, 0, k271, 0, 0, 0]) (fl := [fE1_43 0 (vR 4)]) (cl := []) (wl := []) (ks := [4]) (na := 8) (ls := [oR 0, oI 1, oI 3, oR 1, oR 2, oI 2, oI 0, oI 3, oR 3, oI 2, oI 2, oI 0, oI 3]) (st := []) (me := [(4, (.array .long), 3, [vR 5, vR 6, vR 7])]) (pc' := 405) (ls' := [oR 0, oI 1, oI 3, oR 1, oR 2, oI 2, oI 1, oI 3, oR 3, oI 2, oI 2, oI 0, oI 3]) (st' := [vI 1, vR 0, vI 2, vR 0, vI 1, vR 7]) (ups := []) tt hZ hown X370 N370 e370 (oA (ow121 hw) trivial) trivial (oA (((G340.ext E342).other W345 (Or.inl (oL PE2.lt sz_b271))).other W370 (Or.inl (oL PE2.lt sz_b342))) trivial) (oA (V345s.other W370 (Ne.symm q369)) trivial) (Or.inl rfl) trivial rfl rfl (by decide +kernel) 14 (by decide +kernel) fun T371 h371 _ X371 N371 e371 K371 q371 M371 => ?_
  have e371 := e371.trans (q371 rfl)
  show own_Ends p e below s _ _ _ T371 (mkF m 405 #[oR b12, oI 1, oI 3, oR b14, oR b20, oI 2, oI 1, oI 3, oR b219, oI 2, oI 2, oI 0, oI 3] [vI 1, vR b12, vI 2, vR b12, vI 1, vR b342])
  have G372 := ((((G294.other W334 (Or.inl (oL PE2.lt sz_b289))).ext E342).other W345 (Or.inl (oL PE2.lt sz_b271))).other W370 (Or.inl (oL PE2.lt sz_b342)))
  have G373 := ((((G295.other W334 (Or.inl (oL PE2.lt sz_b289))).ext E342).other W345 (Or.inl (oL PE2.lt sz_b271))).other W370 (Or.inl (oL PE2.lt sz_b342)))
  have G374 := ((((G296.other W334 (Or.inl (oL PE2.lt sz_b289))).ext E342).other W345 (Or.inl (oL PE2.lt sz_b271))).other W370 (Or.inl (oL PE2.lt sz_b342)))
  have c375 := oT c348 m344
  have q376 := oL u44 (oT c375 sg_b342)
  have q377 := oL u46 (oT c348 sg_b289)
  have q378 := oL u46 (oT c375 sg_b342)
  have c379 := oT c352 m344
  have q380 := oL u55 (oT c379 sg_b342)
  have q381 := oL u57 (oT c352 sg_b289)
  have q382 := oL u57 (oT c379 sg_b342)
  have c383 := oT c356 m344
  have q384 := oL u65 (oT c383 sg_b342)
  obtain ⟨cq385, q385, q385'⟩ := (((((((((G274.wr W276).ext E280).wr W283).ext E289).wr W292).wr W334).ext E342).wr W345).wr W370).cell
  obtain ⟨_, T385, Lc385, X385, hQ385, st385⟩ := own_out (X371.privateBack hx (y := mn17) hown (mvT hZ (ow125 hw)) (mvT hZ (ow126 hw)) (own_seli (mvT hZ (ow1 hw)) (Cond.privateMethod_at (mvP hZ (ow127 hw) (args := #[]))) (mvT hZ (ow126 hw)) (by decide)) (Cond.privateMethod_at (mvP hZ (ow127 hw) (args := #[]))) (mvT hZ (ow128 hw)) (by decide) (backOf (W := 4) (rm17a54 l Z a0 hw [] b12 b34 b43 b54 k34 x34a x34b x34c kc34 k43 x43a x43b x43c kc43 k54 h370 n0 (oT Zs359 (Keep.of_wr W370).1) G372 G373 G374 ((((G301.other W334 q349).ext E342).other W345 q300).other W370 q376) ((((G327.other W334 q377).ext E342).other W345 q326).other W370 q378) ((((G313.other W334 q353).ext E342).other W345 q312).other W370 q380) ((((G331.other W334 q381).ext E342).other W345 q330).other W370 q382) (G358.other W370 q384)) hZ (ow128 hw) (ow2 hw) (by decide) (by decide)) (g := (mkF m 405 #[oR b12, oI 1, oI 3, oR b14, oR b20, oI 2, oI 1, oI 3, oR b219, oI 2, oI 2, oI 0, oI 3] [vI 1, vR b12, vI 2, vR b12, vI 1, vR b342])) rfl (by rw [hml]; rfl) (Steps.refl _) (a := b12) (by rw [e371]; exact q385) q385' (argsL := [(.int (1 : Int32))]) (rest := [(.int (2 : Int32)), (.ref b12), (.int (1 : Int32)), (.ref b342)]) (lenOf pd4 rfl) rfl (by show 2 * 0 + _ ≤ _; exact Nat.le_of_eq rfl) (hb hby d1_405) (fun _ _ => ⟨rfl, e371, (by decide : 26 + 0 ≤ _), (by decide : 73 + 0 ≤ _)⟩))
  obtain ⟨rfl, N385q, hh385⟩ := hQ385
  have N385 := Fr.app N371 N385q
  obtain ⟨_, X385, N385⟩ := own_hide X385 N385
  refine own_go (T' := T385) (f' := (mkF m 408 #[oR b12, oI 1, oI 3, oR b14, oR b20, oI 2, oI 1, oI 3, oR b219, oI 2, oI 2, oI 0, oI 3] [(.long (-4398044413953 : Int64)), vI 2, vR b12, vI 1, vR b342])) (fun _ k => st385.trans k) ?_
  have q386 := oL u47 (oT c375 sg_b342)
  have q387 := oL u58 (oT c379 sg_b342)
  obtain ⟨cq388, kq388, q388a, q388b, q388c⟩ := isOf hZ hh385 (((((((((G274.wr W276).ext E280).wr W283).ext E289).wr W292).wr W334).ext E342).wr W345).wr W370)
  obtain ⟨_, T388, Lc388, X388, hQ388, st388⟩ := own_out (X385.virtualBack hx (y := mn18) (z := mn18) hown (mvT hZ (ow130 hw)) (mvT hZ (ow131 hw)) (notFace_of_selects (args := #[]) (mvT hZ (ow133 hw))) (mvT hZ (ow133 hw)) (mvT hZ (ow132 hw)) (by decide) (backOf (W := 2) (rm18a55 l Z a0 hw [] b12 b34 b43 k34 x34a x34b x34c kc34 k43 x43a x43b x43c kc43 h370 n0 (oT Zs359 (Keep.of_wr W370).1) G372 G373 ((((G301.other W334 q349).ext E342).other W345 q300).other W370 q376) (G363.other W370 q386) ((((G313.other W334 q353).ext E342).other W345 q312).other W370 q380) (G366.other W370 q387)) hZ (ow134 hw) (ow2 hw) (by decide) (by decide)) q388a q388c (g := (mkF m 408 #[oR b12, oI 1, oI 3, oR b14, oR b20, oI 2, oI 1, oI 3, oR b219, oI 2, oI 2, oI 0, oI 3] [(.long (-4398044413953 : Int64)), vI 2, vR b12, vI 1, vR b342])) rfl (by rw [hml]; rfl) (Steps.refl _) (argsL := [(.int (2 : Int32)), (.long (-4398044413953 : Int64))]) (rest := [(.int (1 : Int32)), (.ref b342)]) (lenOf pd11 rfl) rfl (by show 2 * 0 + _ ≤ _; exact Nat.le_of_eq rfl) (hb hby d1_408) (fun _ _ => ⟨rfl, hh385, (by decide : 26 + 0 ≤ _), (by decide : 73 + 0 ≤ _)⟩))
  obtain ⟨rfl, N388q, hh388⟩ := hQ388
  have N388 := Fr.app N385 N388q
  obtain ⟨_, X388, N388⟩ := own_hide X388 N388
  refine own_go (T' := T388) (f' := (mkF m 411 #[oR b12, oI 1, oI 3, oR b14, oR b20, oI 2, oI 1, oI 3, oR b219, oI 2, oI 2, oI 0, oI 3] [(.long (8796093022207 : Int64)), vI 1, vR b342])) (fun _ k => st388.trans k) ?_
  obtain ⟨T389, h389, X389, e389, W389, V389, st389⟩ := own_stJ X388 hx hZ hh388 V370s (j := (1 : Int32)) ⟨by decide, by decide⟩ 1 rfl (Nat.le_of_ble_eq_true rfl) (g := (mkF m 411 #[oR b12, oI 1, oI 3, oR b14, oR b20, oI 2, oI 1, oI 3, oR b219, oI 2, oI 2, oI 0, oI 3] [(.long (8796093022207 : Int64)), vI 1, vR b342])) rfl rfl (hb hby d1_411)
  have K389 : Keep h0 h389 [b12] := K370.wr W389 (Or.inr sz_b342)
  have V389s : Arv Z h389 b342 k342 .long (2 : Int32) [(.long (-8796088827905 : Int64)), (.long (8796093022207 : Int64))] (.long (0 : Int64)) := V389
  have N389 := Fr.snoc X389 N388 n_b342
  refine own_go (T' := T389) (f' := (mkF m 361 #[oR b12, oI 1, oI 3, oR b14, oR b20, oI 3, oI 2, oI 3, oR b219, oI 2, oI 2, oI 0, oI 3] [vR b20, vI 3])) (fun _ k => st389 _ (own_e X389 tt 412 9 k rfl)) ?_
  have c390 := oT c336 m344
  have q391 := oL u27 (oT c390 sg_b342)
  obtain ⟨cq392, kq392, q392a, q392b, q392c⟩ := isOf hZ e389 (((((((((G277.ext E280).wr W283).ext E289).wr W292).wr W334).ext E342).wr W345).wr W370).wr W389)
  obtain ⟨_, T392, Lc392, X392, hQ392, st392⟩ := own_out (X389.interfaceBack hx (xi := mn11) (y := mn10) hown (mvT hZ (ow81 hw)) (mvT hZ (ow82 hw)) (mvT hZ (ow83 hw)) (mvT hZ (ow84 hw)) (mvT hZ (ow85 hw)) (mvT hZ (ow86 hw)) (mvT hZ (ow87 hw)) (mvT hZ (ow53 hw)) (by decide) (backOf (W := 1) (rm12a38 l Z a0 hw [] b20 h389 n0 (oT (oT Zs359 (Keep.of_wr W370).1) (Keep.of_wr W389).1) ((((G338.ext E342).other W345 (Or.inl q285)).other W370 (Or.inl q391)).other W389 (Or.inl q391))) hZ (ow88 hw) (ow12 hw) (by decide) (by decide)) q392a q392b q392c (g := (mkF m 361 #[oR b12, oI 1, oI 3, oR b14, oR b20, oI 3, oI 2, oI 3, oR b219, oI 2, oI 2, oI 0, oI 3] [vR b20, vI 3])) rfl (by rw [hml]; rfl) (Steps.refl _) (argsL := []) (rest := [(.int (3 : Int32))]) (lenOf pd0 rfl) rfl (by show 2 * 0 + _ ≤ _; exact Nat.le_of_eq rfl) (hb hby d1_361) (fun _ _ => ⟨rfl, e389, (by decide : 26 + 0 ≤ _), (by decide : 73 + 0 ≤ _)⟩))
  obtain ⟨rfl, N392q, hh392⟩ := hQ392
  have N392 := Fr.app N389 N392q
  obtain ⟨_, X392, N392⟩ := own_hide X392 N392
  refine own_go (T' := T392) (f' := (mkF m 424 #[oR b12, oI 1, oI 3, oR b14, oR b20, oI 3, oI 2, oI 3, oR b219, oI 2, oI 2, oI 0, oI 3] [])) (fun _ k => st392.trans (own_e X392 tt 366 1 k rfl)) ?_
  refine own_ret X392 (v := none) (fun _ => rfl) Bs (fun fs hr => X392.returnOut hx Br (hb hby d1_424) hr) ?_ (by decide) (by decide)
  unfold Q1a29
  have q393 := oM u44 (oT c347 sg_b280)
  have q394 := oM u45 (oT c347 sg_b280)
  have q395 := oM u46 (oT c347 sg_b280)
  have q396 := oM u47 (oT c347 sg_b280)
  have q397 := oM u55 (oT c351 sg_b280)
  have q398 := oM u56 (oT c351 sg_b280)
  have q399 := oM u57 (oT c351 sg_b280)
  have q400 := oM u58 (oT c351 sg_b280)
  have q401 := oM u65 (oT c355 sg_b280)
  have q402 := oM u45 (oT c375 sg_b342)
  have q403 := oM u56 (oT c379 sg_b342)
  have q404 := oM u290 (oT m344 sg_b342)
  have G405 := ((((G340.ext E342).other W345 (Or.inl (oL PE2.lt sz_b271))).other W370 (Or.inl (oL PE2.lt sz_b342))).other W389 (Or.inl (oL PE2.lt sz_b342)))
  have G406 := ((((((((((((((((((((((((((((EE_b34.wr W41).ext E43).wr W51).ext E54).wr W61).ext E64).keep Kq77).ext E78).keep Kq111).ext E125).keep Kq146).ext E147).keep Kq185).ext E194).keep Kq218).ext E219).keep Kq261).ext E271).wr W276).ext E280).wr W283).ext E289).wr W292).wr W334).ext E342).wr W345).wr W370).wr W389)
  have G407 := ((((((((((((((((((((((((((((EE_x34a.wr W41).ext E43).wr W51).ext E54).wr W61).ext E64).keep Kq77).ext E78).keep Kq111).ext E125).keep Kq146).ext E147).keep Kq185).ext E194).keep Kq218).ext E219).keep Kq261).ext E271).wr W276).ext E280).wr W283).ext E289).wr W292).wr W334).ext E342).wr W345).wr W370).wr W389)
  have G408 := ((((((((((((((((((((((((((((EE_x34b.wr W41).ext E43).wr W51).ext E54).wr W61).ext E64).keep Kq77).ext E78).keep Kq111).ext E125).keep Kq146).ext E147).keep Kq185).ext E194).keep Kq218).ext E219).keep Kq261).ext E271).wr W276).ext E280).wr W283).ext E289).wr W292).wr W334).ext E342).wr W345).wr W370).wr W389)
  have G409 := ((((((((((((((((((((((((((((EE_x34c.wr W41).ext E43).wr W51).ext E54).wr W61).ext E64).keep Kq77).ext E78).keep Kq111).ext E125).keep Kq146).ext E147).keep Kq185).ext E194).keep Kq218).ext E219).keep Kq261).ext E271).wr W276).ext E280).wr W283).ext E289).wr W292).wr W334).ext E342).wr W345).wr W370).wr W389)
  have G410 := ((((((((((((((((((((((((((EE_b43.wr W51).ext E54).wr W61).ext E64).keep Kq77).ext E78).keep Kq111).ext E125).keep Kq146).ext E147).keep Kq185).ext E194).keep Kq218).ext E219).keep Kq261).ext E271).wr W276).ext E280).wr W283).ext E289).wr W292).wr W334).ext E342).wr W345).wr W370).wr W389)
  have G411 := ((((((((((((((((((((((((((EE_x43a.wr W51).ext E54).wr W61).ext E64).keep Kq77).ext E78).keep Kq111).ext E125).keep Kq146).ext E147).keep Kq185).ext E194).keep Kq218).ext E219).keep Kq261).ext E271).wr W276).ext E280).wr W283).ext E289).wr W292).wr W334).ext E342).wr W345).wr W370).wr W389)
  have G412 := ((((((((((((((((((((((((((EE_x43b.wr W51).ext E54).wr W61).ext E64).keep Kq77).ext E78).keep Kq111).ext E125).keep Kq146).ext E147).keep Kq185).ext E194).keep Kq218).ext E219).keep Kq261).ext E271).wr W276).ext E280).wr W283).ext E289).wr W292).wr W334).ext E342).wr W345).wr W370).wr W389)
  have G413 := ((((((((((((((((((((((((((EE_x43c.wr W51).ext E54).wr W61).ext E64).keep Kq77).ext E78).keep Kq111).ext E125).keep Kq146).ext E147).keep Kq185).ext E194).keep Kq218).ext E219).keep Kq261).ext E271).wr W276).ext E280).wr W283).ext E289).wr W292).wr W334).ext E342).wr W345).wr W370).wr W389)
  have G414 := ((((((((((((((((((((((((EA54.wr W61).ext E64).keep Kq77).ext E78).keep Kq111).ext E125).keep Kq146).ext E147).keep Kq185).ext E194).keep Kq218).ext E219).keep Kq261).ext E271).wr W276).ext E280).wr W283).ext E289).wr W292).wr W334).ext E342).wr W345).wr W370).wr W389)
  have G415 := ((((((((V_b280.other W283 (oM u281 sg_b280)).ext E289).other W292 (oM u281 sg_b280)).other W334 (oL u290 sg_b289)).ext E342).other W345 (oM u281 sg_b280)).other W370 (Ne.symm q404)).other W389 (Ne.symm q404))
  rw [hh392]
  exact ⟨b34, k34, x34a, kc34, x34b, x34c, b43, k43, x43a, kc43, x43b, x43c, b54, k54, b271, k271, b280, k280, b289, k289, b342, k342, rfl, N392, K389, n_b34, sz_b34, n_x34a, sz_x34a, n_x34b, sz_x34b, n_x34c, sz_x34c, n_b43, sz_b43, n_x43a, sz_x43a, n_x43b, sz_x43b, n_x43c, sz_x43c, n_b54, sz_b54, n_b271, sz_b271, n_b280, sz_b280, n_b289, sz_b289, n_b342, sz_b342, nn_x34a_b34, nn_x34b_b34, nn_x34b_x34a, nn_x34c_b34, nn_x34c_x34a, nn_x34c_x34b, (oM u44 sg_b43), (oM u45 sg_b43), (oM u46 sg_b43), (oM u47 sg_b43), (oM u44 sg_x43a), (oM u45 sg_x43a), (oM u46 sg_x43a), (oM u47 sg_x43a), nn_x43a_b43, (oM u44 sg_x43b), (oM u45 sg_x43b), (oM u46 sg_x43b), (oM u47 sg_x43b), nn_x43b_b43, nn_x43b_x43a, (oM u44 sg_x43c), (oM u45 sg_x43c), (oM u46 sg_x43c), (oM u47 sg_x43c), nn_x43c_b43, nn_x43c_x43a, nn_x43c_x43b, (Ne.symm q150), (Ne.symm q303), (Ne.symm q165), (Ne.symm q236), (oM u55 sg_b54), (oM u56 sg_b54), (oM u57 sg_b54), (oM u58 sg_b54), (Ne.symm q300), (Ne.symm q307), (Ne.symm q326), (Ne.symm q361), (Ne.symm q312), (Ne.symm q318), (Ne.symm q330), (Ne.symm q364), (Ne.symm q322), q393, q394, q395, q396, q397, q398, q399, q400, q401, (oM u281 sg_b280), (Ne.symm q349), (Ne.symm q350), (Ne.symm q377), (Ne.symm q362), (Ne.symm q353), (Ne.symm q354), (Ne.symm q381), (Ne.symm q365), (Ne.symm q357), q333, (oM u290 sg_b289), (Ne.symm q376), q402, (Ne.symm q378), (Ne.symm q386), (Ne.symm q380), q403, (Ne.symm q382), (Ne.symm q387), (Ne.symm q384), q369, q404, (oM u343 sg_b342), (G372.other W389 (Or.inl (oL PE2.lt sz_b342))), (G373.other W389 (Or.inl (oL PE2.lt sz_b342))), (G374.other W389 (Or.inl (oL PE2.lt sz_b342))), G405, (((((G301.other W334 q349).ext E342).other W345 q300).other W370 q376).other W389 q376), O34, G406, (((((G308.other W334 q350).ext E342).other W345 q307).other W370 (Ne.symm q402)).other W389 (Ne.symm q402)), G407, (((((G327.other W334 q377).ext E342).other W345 q326).other W370 q378).other W389 q378), G408, ((G363.other W370 q386).other W389 q386), G409, (((((G313.other W334 q353).ext E342).other W345 q312).other W370 q380).other W389 q380), O43, G410, (((((G319.other W334 q354).ext E342).other W345 q318).other W370 (Ne.symm q403)).other W389 (Ne.symm q403)), G411, (((((G331.other W334 q381).ext E342).other W345 q330).other W370 q382).other W389 q382), G412, ((G366.other W370 q387).other W389 q387), G413, ((G358.other W370 q384).other W389 q384), G414, ((V345s.other W370 (Ne.symm q369)).other W389 (Ne.symm q369)), O271, ((((((((((EA271.wr W276).ext E280).wr W283).ext E289).wr W292).wr W334).ext E342).wr W345).wr W370).wr W389), G415, ((((((((EA280.wr W283).ext E289).wr W292).wr W334).ext E342).wr W345).wr W370).wr W389), ((((V334s.ext E342).other W345 q333).other W370 (oL u343 sg_b342)).other W389 (oL u343 sg_b342)), ((((((EA289.wr W292).wr W334).ext E342).wr W345).wr W370).wr W389), V389s, (((EA342.wr W345).wr W370).wr W389)⟩
def Q19a56 (Z : State)  (h0 : Heap) (n0 : Nat) (v : Option Value) (h : Heap) (L : List Loc) : Prop := v = some (.int (0 : Int32)) ∧ Fr n0 L ∧ h = h0
set_option maxRecDepth 65536 in
set_option maxHeartbeats 40000000 in
theorem rm19a56 (l : Launch) (Z : State) (a0 : Array Value) (hw : HW a0 Z) (ws : List Jvm.Cond) (b3 : Addr) (zd : Int64) (b4o : Addr) (k4p : ClassId) (b4q : Addr) (b4s : Addr) (b4u : Addr) (k4r : ClassId) (h0 : Heap) (n0 : Nat) (Z0 : n0 ≤ h0.size) (PF6 : oF6 Z h0 b3 (.ref b4o)) (PV25 : Arv Z h0 b4o k4p (.array .long) (3 : Int32) [(.ref b4q), (.ref b4s), (.ref b4u)] .null) (PV27 : Arv Z h0 b4q k4r .long (0 : Int32) [] (.long (0 : Int64))) :
    own_Met l mn20 prog_28_method_7_code 9 (some .boolean) ws (oRm 0 0 0 0) #[(.ref b3), (.int (0 : Int32)), (.long zd)] Z h0 (Q19a56 Z  h0 n0) := by
  refine own_met (own := "com/example/libakin/libakin/simhash/Layout") rfl (plainFor_of_name pn_0) ?_
  intro p e s m below meth c s₁ hx hby hml hZ hown hnm X0 e0 Br Bs
  have N0 := Fr.nil n0
  have tt := own_tt hx hby own_ok19
  show own_Ends p e below s _ _ _ s₁ (mkF m 0 #[oR b3, oI 0, .val (.long zd), oS, oU, oU, oU, oU, oU] [])
  refine own_mrun3 (a0 := a0) (as := [b3, b4o, b4q, b4s, b4u]) (kc := [0, k4p, k4r, 0, 0]) (fl := [fE19_43 0 (vR 1)]) (cl := []) (wl := []) (ks := [1, 2]) (na := 5) (ls := [oR 0, oI 0, .val (.long zd), oS, oU, oU, oU, oU, oU]) (st := []) (me := [(1, (.array .long), 3, [vR 2, vR 3, vR 4]), (2, .long, 0, [])]) (pc' := 48) (ls' := [oR 0, oI 0, .val (.long zd), oS, oR 2, oI 0, oI 0, oU, oU]) (st' := [vI 0]) (ups := []) tt hZ hown X0 N0 e0 (oA (ow121 hw) trivial) trivial (oA PF6 trivial) (oA PV25 (oA PV27 trivial)) (Or.inl rfl) trivial rfl rfl (by decide +kernel) 14 rfl fun T5 h5 _ X5 N5 e5 K5 q5 M5 => ?_
  have e5 := e5.trans (q5 rfl)
  show own_Ends p e below s _ _ _ T5 (mkF m 48 #[oR b3, oI 0, .val (.long zd), oS, oR b4q, oI 0, oI 0, oU, oU] [vI 0])
  refine own_ret X5 (v := some (.int (0 : Int32))) (oN Br) Bs (fun fs hr => retN X5 hx (t := .boolean) Br (by simp) (hb hby d19_48) hr) ?_ (by decide) (by decide)
  unfold Q19a56
  exact ⟨rfl, N5, e5⟩
def Q19a57 (Z : State)  (h0 : Heap) (n0 : Nat) (v : Option Value) (h : Heap) (L : List Loc) : Prop := v = some (.int (1 : Int32)) ∧ Fr n0 L ∧ h = h0
set_option maxRecDepth 65536 in
set_option maxHeartbeats 40000000 in
theorem rm19a57 (l : Launch) (Z : State) (a0 : Array Value) (hw : HW a0 Z) (ws : List Jvm.Cond) (b3 : Addr) (zd : Int64) (b4o : Addr) (k4p : ClassId) (b4q : Addr) (b4s : Addr) (b4u : Addr) (k4t : ClassId) (h0 : Heap) (n0 : Nat) (Z0 : n0 ≤ h0.size) (PF6 : oF6 Z h0 b3 (.ref b4o)) (PV25 : Arv Z h0 b4o k4p (.array .long) (3 : Int32) [(.ref b4q), (.ref b4s), (.ref b4u)] .null) (PV29 : Arv Z h0 b4s k4t .long (1 : Int32) [(.long (-4398044413953 : Int64))] (.long (0 : Int64))) (PP0 : (zd &&& (-4398044413953 : Int64)) = (0 : Int64)) :
    own_Met l mn20 prog_28_method_7_code 9 (some .boolean) ws (oRm 0 0 0 0) #[(.ref b3), (.int (1 : Int32)), (.long zd)] Z h0 (Q19a57 Z  h0 n0) := by
  refine own_met (own := "com/example/libakin/libakin/simhash/Layout") rfl (plainFor_of_name pn_0) ?_
  intro p e s m below meth c s₁ hx hby hml hZ hown hnm X0 e0 Br Bs
  have N0 := Fr.nil n0
  have tt := own_tt hx hby own_ok19
  show own_Ends p e below s _ _ _ s₁ (mkF m 0 #[oR b3, oI 1, .val (.long zd), oS, oU, oU, oU, oU, oU] [])
  refine own_mrun3 (a0 := a0) (as := [b3, b4o, b4q, b4s, b4u]) (kc := [0, k4p, 0, k4t, 0]) (fl := [fE19_43 0 (vR 1)]) (cl := []) (wl := []) (ks := [1, 3]) (na := 5) (ls := [oR 0, oI 1, .val (.long zd), oS, oU, oU, oU, oU, oU]) (st := []) (me := [(1, (.array .long), 3, [vR 2, vR 3, vR 4]), (3, .long, 1, [.long (-4398044413953)])]) (pc' := 27) (ls' := [oR 0, oI 1, .val (.long zd), oS, oR 3, oI 1, oI 0, oU, oU]) (st' := [vI 0, vR 3]) (ups := []) tt hZ hown X0 N0 e0 (oA (ow121 hw) trivial) trivial (oA PF6 trivial) (oA PV25 (oA PV29 trivial)) (Or.inl rfl) trivial rfl rfl (by decide +kernel) 15 rfl fun T5 h5 _ X5 N5 e5 K5 q5 M5 => ?_
  have e5 := e5.trans (q5 rfl)
  show own_Ends p e below s _ _ _ T5 (mkF m 27 #[oR b3, oI 1, .val (.long zd), oS, oR b4s, oI 1, oI 0, oU, oU] [vI 0, vR b4s])
  refine own_go (T' := T5) (f' := (mkF m 36 #[oR b3, oI 1, .val (.long zd), oS, oR b4s, oI 1, oI 0, .val (.long (-4398044413953 : Int64)), oS] [(.int (lcmpW (zd &&& (-4398044413953 : Int64)) (0 : Int64)))])) (fun _ k => own_ldJ X5 hx hZ e5 PV29 (j := (0 : Int32)) (x := (-4398044413953 : Int64)) ⟨by decide, by decide⟩ rfl rfl rfl (hb hby d19_27) (own_e X5 tt 28 6 k rfl)) ?_
  refine own_go (T' := T5) (f' := (mkF m 40 #[oR b3, oI 1, .val (.long zd), oS, oR b4s, oI 1, oI 0, .val (.long (-4398044413953 : Int64)), oS] [vI 1])) (fun _ k => XS.ifNo X5.here hx rfl (hb hby d19_36) rfl ((if0 _ _).trans (teq ((own_lc_eq (a := (zd &&& (-4398044413953 : Int64))) (b := (0 : Int64))).mpr PP0)).2) (own_e X5 tt 39 1 k rfl)) ?_
  refine own_ret X5 (v := some (.int (1 : Int32))) (oN Br) Bs (fun fs hr => retN X5 hx (t := .boolean) Br (by simp) (hb hby d19_40) hr) ?_ (by decide) (by decide)
  unfold Q19a57
  exact ⟨rfl, N5, e5⟩
def Q19a58 (Z : State)  (h0 : Heap) (n0 : Nat) (v : Option Value) (h : Heap) (L : List Loc) : Prop := v = some (.int (0 : Int32)) ∧ Fr n0 L ∧ h = h0
set_option maxRecDepth 65536 in
set_option maxHeartbeats 40000000 in
theorem rm19a58 (l : Launch) (Z : State) (a0 : Array Value) (hw : HW a0 Z) (ws : List Jvm.Cond) (b3 : Addr) (zd : Int64) (b4o : Addr) (k4p : ClassId) (b4q : Addr) (b4s : Addr) (b4u : Addr) (k4t : ClassId) (h0 : Heap) (n0 : Nat) (Z0 : n0 ≤ h0.size) (PF6 : oF6 Z h0 b3 (.ref b4o)) (PV25 : Arv Z h0 b4o k4p (.array .long) (3 : Int32) [(.ref b4q), (.ref b4s), (.ref b4u)] .null) (PV29 : Arv Z h0 b4s k4t .long (1 : Int32) [(.long (-4398044413953 : Int64))] (.long (0 : Int64))) (PP0 : ¬ ((zd &&& (-4398044413953 : Int64)) = (0 : Int64))) :
    own_Met l mn20 prog_28_method_7_code 9 (some .boolean) ws (oRm 0 0 0 0) #[(.ref b3), (.int (1 : Int32)), (.long zd)] Z h0 (Q19a58 Z  h0 n0) := by
  refine own_met (own := "com/example/libakin/libakin/simhash/Layout") rfl (plainFor_of_name pn_0) ?_
  intro p e s m below meth c s₁ hx hby hml hZ hown hnm X0 e0 Br Bs
  have N0 := Fr.nil n0
  have tt := own_tt hx hby own_ok19
  show own_Ends p e below s _ _ _ s₁ (mkF m 0 #[oR b3, oI 1, .val (.long zd), oS, oU, oU, oU, oU, oU] [])
  refine own_mrun3 (a0 := a0) (as := [b3, b4o, b4q, b4s, b4u]) (kc := [0, k4p, 0, k4t, 0]) (fl := [fE19_43 0 (vR 1)]) (cl := []) (wl := []) (ks := [1, 3]) (na := 5) (ls := [oR 0, oI 1, .val (.long zd), oS, oU, oU, oU, oU, oU]) (st := []) (me := [(1, (.array .long), 3, [vR 2, vR 3, vR 4]), (3, .long, 1, [.long (-4398044413953)])]) (pc' := 27) (ls' := [oR 0, oI 1, .val (.long zd), oS, oR 3, oI 1, oI 0, oU, oU]) (st' := [vI 0, vR 3]) (ups := []) tt hZ hown X0 N0 e0 (oA (ow121 hw) trivial) trivial (oA PF6 trivial) (oA PV25 (oA PV29 trivial)) (Or.inl rfl) trivial rfl rfl (by decide +kernel) 15 rfl fun T5 h5 _ X5 N5 e5 K5 q5 M5 => ?_
  have e5 := e5.trans (q5 rfl)
  show own_Ends p e below s _ _ _ T5 (mkF m 27 #[oR b3, oI 1, .val (.long zd), oS, oR b4s, oI 1, oI 0, oU, oU] [vI 0, vR b4s])
  refine own_go (T' := T5) (f' := (mkF m 36 #[oR b3, oI 1, .val (.long zd), oS, oR b4s, oI 1, oI 0, .val (.long (-4398044413953 : Int64)), oS] [(.int (lcmpW (zd &&& (-4398044413953 : Int64)) (0 : Int64)))])) (fun _ k => own_ldJ X5 hx hZ e5 PV29 (j := (0 : Int32)) (x := (-4398044413953 : Int64)) ⟨by decide, by decide⟩ rfl rfl rfl (hb hby d19_27) (own_e X5 tt 28 6 k rfl)) ?_
  refine own_go (T' := T5) (f' := (mkF m 48 #[oR b3, oI 1, .val (.long zd), oS, oR b4s, oI 1, oI 1, .val (.long (-4398044413953 : Int64)), oS] [vI 0])) (fun _ k => XS.ifYes X5.here hx rfl (pc0 := 36) (pc' := 41) rfl (hb hby d19_36) rfl ((if0 _ _).trans (feq ((not_congr (own_lc_eq (a := (zd &&& (-4398044413953 : Int64))) (b := (0 : Int64)))).mpr PP0)).2) (by decide) (by decide) (own_e X5 tt 41 6 k rfl)) ?_
  refine own_ret X5 (v := some (.int (0 : Int32))) (oN Br) Bs (fun fs hr => retN X5 hx (t := .boolean) Br (by simp) (hb hby d19_48) hr) ?_ (by decide) (by decide)
  unfold Q19a58
  exact ⟨rfl, N5, e5⟩
def Q19a59 (Z : State)  (h0 : Heap) (n0 : Nat) (v : Option Value) (h : Heap) (L : List Loc) : Prop := v = some (.int (1 : Int32)) ∧ Fr n0 L ∧ h = h0
set_option maxRecDepth 65536 in
set_option maxHeartbeats 40000000 in
theorem rm19a59 (l : Launch) (Z : State) (a0 : Array Value) (hw : HW a0 Z) (ws : List Jvm.Cond) (b3 : Addr) (zd : Int64) (b4o : Addr) (k4p : ClassId) (b4q : Addr) (b4s : Addr) (b4u : Addr) (k4v : ClassId) (h0 : Heap) (n0 : Nat) (Z0 : n0 ≤ h0.size) (PF6 : oF6 Z h0 b3 (.ref b4o)) (PV25 : Arv Z h0 b4o k4p (.array .long) (3 : Int32) [(.ref b4q), (.ref b4s), (.ref b4u)] .null) (PV31 : Arv Z h0 b4u k4v .long (2 : Int32) [(.long (-8796088827905 : Int64)), (.long (8796093022207 : Int64))] (.long (0 : Int64))) (PP0 : (zd &&& (-8796088827905 : Int64)) = (0 : Int64)) :
    own_Met l mn20 prog_28_method_7_code 9 (some .boolean) ws (oRm 0 0 0 0) #[(.ref b3), (.int (2 : Int32)), (.long zd)] Z h0 (Q19a59 Z  h0 n0) := by
  refine own_met (own := "com/example/libakin/libakin/simhash/Layout") rfl (plainFor_of_name pn_0) ?_
  intro p e s m below meth c s₁ hx hby hml hZ hown hnm X0 e0 Br Bs
  have N0 := Fr.nil n0
  have tt := own_tt hx hby own_ok19
  show own_Ends p e below s _ _ _ s₁ (mkF m 0 #[oR b3, oI 2, .val (.long zd), oS, oU, oU, oU, oU, oU] [])
  refine own_mrun3 (a0 := a0) (as := [b3, b4o, b4q, b4s, b4u]) (kc := [0, k4p, 0, 0, k4v]) (fl := [fE19_43 0 (vR 1)]) (cl := []) (wl := []) (ks := [1, 4]) (na := 5) (ls := [oR 0, oI 2, .val (.long zd), oS, oU, oU, oU, oU, oU]) (st := []) (me := [(1, (.array .long), 3, [vR 2, vR 3, vR 4]), (4, .long, 2, [.long (-8796088827905), .long 8796093022207])]) (pc' := 27) (ls' := [oR 0, oI 2, .val (.long zd), oS, oR 4, oI 2, oI 0, oU, oU]) (st' := [vI 0, vR 4]) (ups := []) tt hZ hown X0 N0 e0 (oA (ow121 hw) trivial) trivial (oA PF6 trivial) (oA PV25 (oA PV31 trivial)) (Or.inl rfl) trivial rfl rfl (by decide +kernel) 15 rfl fun T5 h5 _ X5 N5 e5 K5 q5 M5 => ?_
  have e5 := e5.trans (q5 rfl)
  show own_Ends p e below s _ _ _ T5 (mkF m 27 #[oR b3, oI 2, .val (.long zd), oS, oR b4u, oI 2, oI 0, oU, oU] [vI 0, vR b4u])
  refine own_go (T' := T5) (f' := (mkF m 36 #[oR b3, oI 2, .val (.long zd), oS, oR b4u, oI 2, oI 0, .val (.long (-8796088827905 : Int64)), oS] [(.int (lcmpW (zd &&& (-8796088827905 : Int64)) (0 : Int64)))])) (fun _ k => own_ldJ X5 hx hZ e5 PV31 (j := (0 : Int32)) (x := (-8796088827905 : Int64)) ⟨by decide, by decide⟩ rfl rfl rfl (hb hby d19_27) (own_e X5 tt 28 6 k rfl)) ?_
  refine own_go (T' := T5) (f' := (mkF m 40 #[oR b3, oI 2, .val (.long zd), oS, oR b4u, oI 2, oI 0, .val (.long (-8796088827905 : Int64)), oS] [vI 1])) (fun _ k => XS.ifNo X5.here hx rfl (hb hby d19_36) rfl ((if0 _ _).trans (teq ((own_lc_eq (a := (zd &&& (-8796088827905 : Int64))) (b := (0 : Int64))).mpr PP0)).2) (own_e X5 tt 39 1 k rfl)) ?_
  refine own_ret X5 (v := some (.int (1 : Int32))) (oN Br) Bs (fun fs hr => retN X5 hx (t := .boolean) Br (by simp) (hb hby d19_40) hr) ?_ (by decide) (by decide)
  unfold Q19a59
  exact ⟨rfl, N5, e5⟩
def Q19a60 (Z : State)  (h0 : Heap) (n0 : Nat) (v : Option Value) (h : Heap) (L : List Loc) : Prop := v = some (.int (1 : Int32)) ∧ Fr n0 L ∧ h = h0
set_option maxRecDepth 65536 in
set_option maxHeartbeats 40000000 in
theorem rm19a60 (l : Launch) (Z : State) (a0 : Array Value) (hw : HW a0 Z) (ws : List Jvm.Cond) (b3 : Addr) (zd : Int64) (b4o : Addr) (k4p : ClassId) (b4q : Addr) (b4s : Addr) (b4u : Addr) (k4v : ClassId) (h0 : Heap) (n0 : Nat) (Z0 : n0 ≤ h0.size) (PF6 : oF6 Z h0 b3 (.ref b4o)) (PV25 : Arv Z h0 b4o k4p (.array .long) (3 : Int32) [(.ref b4q), (.ref b4s), (.ref b4u)] .null) (PV31 : Arv Z h0 b4u k4v .long (2 : Int32) [(.long (-8796088827905 : Int64)), (.long (8796093022207 : Int64))] (.long (0 : Int64))) (PP0 : ¬ ((zd &&& (-8796088827905 : Int64)) = (0 : Int64))) (PP1 : (zd &&& (8796093022207 : Int64)) = (0 : Int64)) :
    own_Met l mn20 prog_28_method_7_code 9 (some .boolean) ws (oRm 0 0 0 0) #[(.ref b3), (.int (2 : Int32)), (.long zd)] Z h0 (Q19a60 Z  h0 n0) := by
  refine own_met (own := "com/example/libakin/libakin/simhash/Layout") rfl (plainFor_of_name pn_0) ?_
  intro p e s m below meth c s₁ hx hby hml hZ hown hnm X0 e0 Br Bs
  have N0 := Fr.nil n0
  have tt := own_tt hx hby own_ok19
  show own_Ends p e below s _ _ _ s₁ (mkF m 0 #[oR b3, oI 2, .val (.long zd), oS, oU, oU, oU, oU, oU] [])
  refine own_mrun3 (a0 := a0) (as := [b3, b4o, b4q, b4s, b4u]) (kc := [0, k4p, 0, 0, k4v]) (fl := [fE19_43 0 (vR 1)]) (cl := []) (wl := []) (ks := [1, 4]) (na := 5) (ls := [oR 0, oI 2, .val (.long zd), oS, oU, oU, oU, oU, oU]) (st := []) (me := [(1, (.array .long), 3, [vR 2, vR 3, vR 4]), (4, .long, 2, [.long (-8796088827905), .long 8796093022207])]) (pc' := 27) (ls' := [oR 0, oI 2, .val (.long zd), oS, oR 4, oI 2, oI 0, oU, oU]) (st' := [vI 0, vR 4]) (ups := []) tt hZ hown X0 N0 e0 (oA (ow121 hw) trivial) trivial (oA PF6 trivial) (oA PV25 (oA PV31 trivial)) (Or.inl rfl) trivial rfl rfl (by decide +kernel) 15 rfl fun T5 h5 _ X5 N5 e5 K5 q5 M5 => ?_
  have e5 := e5.trans (q5 rfl)
  show own_Ends p e below s _ _ _ T5 (mkF m 27 #[oR b3, oI 2, .val (.long zd), oS, oR b4u, oI 2, oI 0, oU, oU] [vI 0, vR b4u])
  refine own_go (T' := T5) (f' := (mkF m 36 #[oR b3, oI 2, .val (.long zd), oS, oR b4u, oI 2, oI 0, .val (.long (-8796088827905 : Int64)), oS] [(.int (lcmpW (zd &&& (-8796088827905 : Int64)) (0 : Int64)))])) (fun _ k => own_ldJ X5 hx hZ e5 PV31 (j := (0 : Int32)) (x := (-8796088827905 : Int64)) ⟨by decide, by decide⟩ rfl rfl rfl (hb hby d19_27) (own_e X5 tt 28 6 k rfl)) ?_
  refine own_go (T' := T5) (f' := (mkF m 27 #[oR b3, oI 2, .val (.long zd), oS, oR b4u, oI 2, oI 1, .val (.long (-8796088827905 : Int64)), oS] [vI 1, vR b4u])) (fun _ k => XS.ifYes X5.here hx rfl (pc0 := 36) (pc' := 41) rfl (hb hby d19_36) rfl ((if0 _ _).trans (feq ((not_congr (own_lc_eq (a := (zd &&& (-8796088827905 : Int64))) (b := (0 : Int64)))).mpr PP0)).2) (by decide) (by decide) (own_e X5 tt 41 7 k rfl)) ?_
  refine own_go (T' := T5) (f' := (mkF m 36 #[oR b3, oI 2, .val (.long zd), oS, oR b4u, oI 2, oI 1, .val (.long (8796093022207 : Int64)), oS] [(.int (lcmpW (zd &&& (8796093022207 : Int64)) (0 : Int64)))])) (fun _ k => own_ldJ X5 hx hZ e5 PV31 (j := (1 : Int32)) (x := (8796093022207 : Int64)) ⟨by decide, by decide⟩ rfl rfl rfl (hb hby d19_27) (own_e X5 tt 28 6 k rfl)) ?_
  refine own_go (T' := T5) (f' := (mkF m 40 #[oR b3, oI 2, .val (.long zd), oS, oR b4u, oI 2, oI 1, .val (.long (8796093022207 : Int64)), oS] [vI 1])) (fun _ k => XS.ifNo X5.here hx rfl (hb hby d19_36) rfl ((if0 _ _).trans (teq ((own_lc_eq (a := (zd &&& (8796093022207 : Int64))) (b := (0 : Int64))).mpr PP1)).2) (own_e X5 tt 39 1 k rfl)) ?_
  refine own_ret X5 (v := some (.int (1 : Int32))) (oN Br) Bs (fun fs hr => retN X5 hx (t := .boolean) Br (by simp) (hb hby d19_40) hr) ?_ (by decide) (by decide)
  unfold Q19a60
  exact ⟨rfl, N5, e5⟩
def Q19a61 (Z : State)  (h0 : Heap) (n0 : Nat) (v : Option Value) (h : Heap) (L : List Loc) : Prop := v = some (.int (0 : Int32)) ∧ Fr n0 L ∧ h = h0
set_option maxRecDepth 65536 in
set_option maxHeartbeats 40000000 in
theorem rm19a61 (l : Launch) (Z : State) (a0 : Array Value) (hw : HW a0 Z) (ws : List Jvm.Cond) (b3 : Addr) (zd : Int64) (b4o : Addr) (k4p : ClassId) (b4q : Addr) (b4s : Addr) (b4u : Addr) (k4v : ClassId) (h0 : Heap) (n0 : Nat) (Z0 : n0 ≤ h0.size) (PF6 : oF6 Z h0 b3 (.ref b4o)) (PV25 : Arv Z h0 b4o k4p (.array .long) (3 : Int32) [(.ref b4q), (.ref b4s), (.ref b4u)] .null) (PV31 : Arv Z h0 b4u k4v .long (2 : Int32) [(.long (-8796088827905 : Int64)), (.long (8796093022207 : Int64))] (.long (0 : Int64))) (PP0 : ¬ ((zd &&& (-8796088827905 : Int64)) = (0 : Int64))) (PP1 : ¬ ((zd &&& (8796093022207 : Int64)) = (0 : Int64))) :
    own_Met l mn20 prog_28_method_7_code 9 (some .boolean) ws (oRm 0 0 0 0) #[(.ref b3), (.int (2 : Int32)), (.long zd)] Z h0 (Q19a61 Z  h0 n0) := by
  refine own_met (own := "com/example/libakin/libakin/simhash/Layout") rfl (plainFor_of_name pn_0) ?_
  intro p e s m below meth c s₁ hx hby hml hZ hown hnm X0 e0 Br Bs
  have N0 := Fr.nil n0
  have tt := own_tt hx hby own_ok19
  show own_Ends p e below s _ _ _ s₁ (mkF m 0 #[oR b3, oI 2, .val (.long zd), oS, oU, oU, oU, oU, oU] [])
  refine own_mrun3 (a0 := a0) (as := [b3, b4o, b4q, b4s, b4u]) (kc := [0, k4p, 0, 0, k4v]) (fl := [fE19_43 0 (vR 1)]) (cl := []) (wl := []) (ks := [1, 4]) (na := 5) (ls := [oR 0, oI 2, .val (.long zd), oS, oU, oU, oU, oU, oU]) (st := []) (me := [(1, (.array .long), 3, [vR 2, vR 3, vR 4]), (4, .long, 2, [.long (-8796088827905), .long 8796093022207])]) (pc' := 27) (ls' := [oR 0, oI 2, .val (.long zd), oS, oR 4, oI 2, oI 0, oU, oU]) (st' := [vI 0, vR 4]) (ups := []) tt hZ hown X0 N0 e0 (oA (ow121 hw) trivial) trivial (oA PF6 trivial) (oA PV25 (oA PV31 trivial)) (Or.inl rfl) trivial rfl rfl (by decide +kernel) 15 rfl fun T5 h5 _ X5 N5 e5 K5 q5 M5 => ?_
  have e5 := e5.trans (q5 rfl)
  show own_Ends p e below s _ _ _ T5 (mkF m 27 #[oR b3, oI 2, .val (.long zd), oS, oR b4u, oI 2, oI 0, oU, oU] [vI 0, vR b4u])
  refine own_go (T' := T5) (f' := (mkF m 36 #[oR b3, oI 2, .val (.long zd), oS, oR b4u, oI 2, oI 0, .val (.long (-8796088827905 : Int64)), oS] [(.int (lcmpW (zd &&& (-8796088827905 : Int64)) (0 : Int64)))])) (fun _ k => own_ldJ X5 hx hZ e5 PV31 (j := (0 : Int32)) (x := (-8796088827905 : Int64)) ⟨by decide, by decide⟩ rfl rfl rfl (hb hby d19_27) (own_e X5 tt 28 6 k rfl)) ?_
  refine own_go (T' := T5) (f' := (mkF m 27 #[oR b3, oI 2, .val (.long zd), oS, oR b4u, oI 2, oI 1, .val (.long (-8796088827905 : Int64)), oS] [vI 1, vR b4u])) (fun _ k => XS.ifYes X5.here hx rfl (pc0 := 36) (pc' := 41) rfl (hb hby d19_36) rfl ((if0 _ _).trans (feq ((not_congr (own_lc_eq (a := (zd &&& (-8796088827905 : Int64))) (b := (0 : Int64)))).mpr PP0)).2) (by decide) (by decide) (own_e X5 tt 41 7 k rfl)) ?_
  refine own_go (T' := T5) (f' := (mkF m 36 #[oR b3, oI 2, .val (.long zd), oS, oR b4u, oI 2, oI 1, .val (.long (8796093022207 : Int64)), oS] [(.int (lcmpW (zd &&& (8796093022207 : Int64)) (0 : Int64)))])) (fun _ k => own_ldJ X5 hx hZ e5 PV31 (j := (1 : Int32)) (x := (8796093022207 : Int64)) ⟨by decide, by decide⟩ rfl rfl rfl (hb hby d19_27) (own_e X5 tt 28 6 k rfl)) ?_
  refine own_go (T' := T5) (f' := (mkF m 48 #[oR b3, oI 2, .val (.long zd), oS, oR b4u, oI 2, oI 2, .val (.long (8796093022207 : Int64)), oS] [vI 0])) (fun _ k => XS.ifYes X5.here hx rfl (pc0 := 36) (pc' := 41) rfl (hb hby d19_36) rfl ((if0 _ _).trans (feq ((not_congr (own_lc_eq (a := (zd &&& (8796093022207 : Int64))) (b := (0 : Int64)))).mpr PP1)).2) (by decide) (by decide) (own_e X5 tt 41 6 k rfl)) ?_
  refine own_ret X5 (v := some (.int (0 : Int32))) (oN Br) Bs (fun fs hr => retN X5 hx (t := .boolean) Br (by simp) (hb hby d19_48) hr) ?_ (by decide) (by decide)
  unfold Q19a61
  exact ⟨rfl, N5, e5⟩
def own_t0 (pc : Nat) : Option (Instr × Nat) := bif Nat.ble pc 90 then (bif Nat.ble pc 39 then (bif Nat.ble pc 16 then (bif Nat.ble pc 6 then (bif Nat.ble pc 1 then (bif Nat.ble pc 0 then (bif Nat.beq pc 0 then some (.lload_n 2, 1) else none) else (bif Nat.beq pc 1 then some (.lload 4, 2) else none)) else (bif Nat.ble pc 3 then (bif Nat.beq pc 3 then some (.land, 1) else none) else (bif Nat.ble pc 4 then (bif Nat.beq pc 4 then some (.lstore 6, 2) else none) else (bif Nat.beq pc 6 then some (.iload_n 0, 1) else none)))) else (bif Nat.ble pc 8 then (bif Nat.ble pc 7 then (bif Nat.beq pc 7 then some (.iconst 1, 1) else none) else (bif Nat.beq pc 8 then some (.iand, 1) else none)) else (bif Nat.ble pc 9 then (bif Nat.beq pc 9 then some (.ifCond .ne 66, 3) else none) else (bif Nat.ble pc 15 then (bif Nat.beq pc 15 then some (.dup, 1) else none) else (bif Nat.beq pc 16 then some (.iconst 1, 1) else none))))) else (bif Nat.ble pc 27 then (bif Nat.ble pc 21 then (bif Nat.ble pc 17 then (bif Nat.beq pc 17 then some (.iconst 2, 1) else none) else (bif Nat.beq pc 21 then some (.astore 8, 2) else none)) else (bif Nat.ble pc 23 then (bif Nat.beq pc 23 then some (.iload_n 1, 1) else none) else (bif Nat.ble pc 26 then (bif Nat.beq pc 26 then some (.iand, 1) else none) else (bif Nat.beq pc 27 then some (.iconst 2, 1) else none)))) else (bif Nat.ble pc 33 then (bif Nat.ble pc 29 then (bif Nat.beq pc 29 then some (.istore 9, 2) else none) else (bif Nat.ble pc 31 then (bif Nat.beq pc 31 then some (.iload 9, 2) else none) else (bif Nat.beq pc 33 then some (.iconst 1, 1) else none))) else (bif Nat.ble pc 34 then (bif Nat.beq pc 34 then some (.if_icmp .ne 18, 3) else none) else (bif Nat.ble pc 37 then (bif Nat.beq pc 37 then some (.lload 6, 2) else none) else (bif Nat.beq pc 39 then some (.ldc2_w 13, 3) else none)))))) else (bif Nat.ble pc 59 then (bif Nat.ble pc 48 then (bif Nat.ble pc 43 then (bif Nat.ble pc 42 then (bif Nat.beq pc 42 then some (.land, 1) else none) else (bif Nat.beq pc 43 then some (.lconst 0, 1) else none)) else (bif Nat.ble pc 44 then (bif Nat.beq pc 44 then some (.lcmp, 1) else none) else (bif Nat.ble pc 45 then (bif Nat.beq pc 45 then some (.ifCond .ne 7, 3) else none) else (bif Nat.beq pc 48 then some (.iconst 1, 1) else none)))) else (bif Nat.ble pc 53 then (bif Nat.ble pc 49 then (bif Nat.beq pc 49 then some (.goto 4, 3) else none) else (bif Nat.ble pc 52 then (bif Nat.beq pc 52 then some (.iconst 0, 1) else none) else (bif Nat.beq pc 53 then some (.istore 10, 2) else none))) else (bif Nat.ble pc 55 then (bif Nat.beq pc 55 then some (.aload 8, 2) else none) else (bif Nat.ble pc 57 then (bif Nat.beq pc 57 then some (.iload 9, 2) else none) else (bif Nat.beq pc 59 then some (.lload 6, 2) else none))))) else (bif Nat.ble pc 78 then (bif Nat.ble pc 66 then (bif Nat.ble pc 64 then (bif Nat.beq pc 64 then some (.iload 10, 2) else none) else (bif Nat.beq pc 66 then some (.if_icmp .ne 7, 3) else none)) else (bif Nat.ble pc 69 then (bif Nat.beq pc 69 then some (.iconst 1, 1) else none) else (bif Nat.ble pc 70 then (bif Nat.beq pc 70 then some (.goto 4, 3) else none) else (bif Nat.beq pc 78 then some (.dup, 1) else none)))) else (bif Nat.ble pc 84 then (bif Nat.ble pc 79 then (bif Nat.beq pc 79 then some (.iconst 1, 1) else none) else (bif Nat.ble pc 80 then (bif Nat.beq pc 80 then some (.iconst 3, 1) else none) else (bif Nat.beq pc 84 then some (.astore 8, 2) else none))) else (bif Nat.ble pc 86 then (bif Nat.beq pc 86 then some (.iload_n 1, 1) else none) else (bif Nat.ble pc 89 then (bif Nat.beq pc 89 then some (.iand, 1) else none) else (bif Nat.beq pc 90 then some (.iconst 3, 1) else none))))))) else (bif Nat.ble pc 132 then (bif Nat.ble pc 111 then (bif Nat.ble pc 100 then (bif Nat.ble pc 94 then (bif Nat.ble pc 92 then (bif Nat.beq pc 92 then some (.istore 9, 2) else none) else (bif Nat.beq pc 94 then some (.iload 9, 2) else none)) else (bif Nat.ble pc 96 then (bif Nat.beq pc 96 then some (.ifCond .ne 9, 3) else none) else (bif Nat.ble pc 99 then (bif Nat.beq pc 99 then some (.iconst 0, 1) else none) else (bif Nat.beq pc 100 then some (.istore 10, 2) else none)))) else (bif Nat.ble pc 105 then (bif Nat.ble pc 102 then (bif Nat.beq pc 102 then some (.goto 59, 3) else none) else (bif Nat.beq pc 105 then some (.iload 9, 2) else none)) else (bif Nat.ble pc 107 then (bif Nat.beq pc 107 then some (.iconst 1, 1) else none) else (bif Nat.ble pc 108 then (bif Nat.beq pc 108 then some (.if_icmp .ne 24, 3) else none) else (bif Nat.beq pc 111 then some (.lload 6, 2) else none))))) else (bif Nat.ble pc 119 then (bif Nat.ble pc 116 then (bif Nat.ble pc 113 then (bif Nat.beq pc 113 then some (.ldc2_w 19, 3) else none) else (bif Nat.beq pc 116 then some (.land, 1) else none)) else (bif Nat.ble pc 117 then (bif Nat.beq pc 117 then some (.lconst 0, 1) else none) else (bif Nat.ble pc 118 then (bif Nat.beq pc 118 then some (.lcmp, 1) else none) else (bif Nat.beq pc 119 then some (.ifCond .ne 7, 3) else none)))) else (bif Nat.ble pc 126 then (bif Nat.ble pc 122 then (bif Nat.beq pc 122 then some (.iconst 1, 1) else none) else (bif Nat.ble pc 123 then (bif Nat.beq pc 123 then some (.goto 4, 3) else none) else (bif Nat.beq pc 126 then some (.iconst 0, 1) else none))) else (bif Nat.ble pc 127 then (bif Nat.beq pc 127 then some (.istore 10, 2) else none) else (bif Nat.ble pc 129 then (bif Nat.beq pc 129 then some (.goto 32, 3) else none) else (bif Nat.beq pc 132 then some (.lload 6, 2) else none)))))) else (bif Nat.ble pc 151 then (bif Nat.ble pc 140 then (bif Nat.ble pc 137 then (bif Nat.ble pc 134 then (bif Nat.beq pc 134 then some (.ldc2_w 21, 3) else none) else (bif Nat.beq pc 137 then some (.land, 1) else none)) else (bif Nat.ble pc 138 then (bif Nat.beq pc 138 then some (.lconst 0, 1) else none) else (bif Nat.ble pc 139 then (bif Nat.beq pc 139 then some (.lcmp, 1) else none) else (bif Nat.beq pc 140 then some (.ifCond .eq 14, 3) else none)))) else (bif Nat.ble pc 148 then (bif Nat.ble pc 143 then (bif Nat.beq pc 143 then some (.lload 6, 2) else none) else (bif Nat.ble pc 145 then (bif Nat.beq pc 145 then some (.ldc2_w 23, 3) else none) else (bif Nat.beq pc 148 then some (.land, 1) else none))) else (bif Nat.ble pc 149 then (bif Nat.beq pc 149 then some (.lconst 0, 1) else none) else (bif Nat.ble pc 150 then (bif Nat.beq pc 150 then some (.lcmp, 1) else none) else (bif Nat.beq pc 151 then some (.ifCond .ne 7, 3) else none))))) else (bif Nat.ble pc 161 then (bif Nat.ble pc 155 then (bif Nat.ble pc 154 then (bif Nat.beq pc 154 then some (.iconst 1, 1) else none) else (bif Nat.beq pc 155 then some (.goto 4, 3) else none)) else (bif Nat.ble pc 158 then (bif Nat.beq pc 158 then some (.iconst 0, 1) else none) else (bif Nat.ble pc 159 then (bif Nat.beq pc 159 then some (.istore 10, 2) else none) else (bif Nat.beq pc 161 then some (.aload 8, 2) else none)))) else (bif Nat.ble pc 170 then (bif Nat.ble pc 163 then (bif Nat.beq pc 163 then some (.iload 9, 2) else none) else (bif Nat.ble pc 165 then (bif Nat.beq pc 165 then some (.lload 6, 2) else none) else (bif Nat.beq pc 170 then some (.iload 10, 2) else none))) else (bif Nat.ble pc 172 then (bif Nat.beq pc 172 then some (.if_icmp .ne 7, 3) else none) else (bif Nat.ble pc 175 then (bif Nat.beq pc 175 then some (.iconst 1, 1) else none) else (bif Nat.beq pc 176 then some (.goto 4, 3) else none)))))))
theorem own_ok0 : ∀ pc q, own_fetch 181 own_t0 pc = some q → decode code pc = .ok q := own_tab (by decide +kernel)
theorem pn_1 : plainName "com/example/libakin/libakin/simhash/LayoutMetEarlierPinLaw" = true := by first | (simp [plainName, overriddenIn]; done) | decide +kernel
theorem ef_rm0 (m : MethodId) (p0 : Int32) (p1 : Int32) (q2 : Int64) (q3 : Int64) : entryFrame m #[(.int p0), (.int p1), (.long q2), (.long q3)] maxLocals = mkF m 0 #[.val (.int p0), .val (.int p1), .val (.long q2), .second, .val (.long q3), .second, .unset, .unset, .unset, .unset, .unset] [] := by first | (simp [entryFrame, mkF, argsToLocals, Value.category, maxLocals]; done) | rfl
def Q0 (Z : State) (p0 : Int32) (p1 : Int32) (q2 : Int64) (q3 : Int64) (wd : Addr) (kd : ClassId) (h0 : Heap) (n0 : Nat) (v : Option Value) (h : Heap) (L : List Loc) : Prop := v = some (.int (1 : Int32)) ∧ Fr n0 L
set_option maxRecDepth 65536 in
set_option maxHeartbeats 40000000 in
theorem rm0 (l : Launch) (Z : State) (a0 : Array Value) (hw : HW a0 Z) (ws : List Jvm.Cond) (p0 : Int32) (p1 : Int32) (q2 : Int64) (q3 : Int64) (wd : Addr) (kd : ClassId) (h0 : Heap) (n0 : Nat) (Z0 : n0 ≤ h0.size) (S_d : Sta Z h0 "java/util/ArrayList" "DEFAULTCAPACITY_EMPTY_ELEMENTDATA" "[Ljava/lang/Object;" (.ref wd)) (V_d : Arv Z h0 wd kd (.object "java/lang/Object") (0 : Int32) [] .null) :
    MetFree l x (head1 (Jvm.Cond.code x code maxLocals ret :: ws) room_1) (fun a U => a = #[(.int p0), (.int p1), (.long q2), (.long q3)] ∧ Z.Warmed39 U.vm ∧ U.heap = h0) (fun _ _ _ _ _ => True) (fun _ U o U' => ∃ v L, o = .returned v ∧ Q0 Z p0 p1 q2 q3 wd kd h0 n0 v U'.heap L ∧ FrameEnd U o U' L room_1.cells room_1.slots) := by
  refine MetFree.of_bodySF (plainFor_of_name pn_1) hisR ?_
  intro p e s m args below meth c s₁ Bd hml0 hP hK
  obtain ⟨rfl, hZ, hh⟩ := hP
  have hx := Bd.exec
  have hby := Bd.bytes
  have hml : c.maxLocals = 11 := hml0
  have hown : s.vm.findClass "com/example/libakin/libakin/simhash/LayoutMetEarlierPinLaw" = some m.cls := findClass_of_methodNamed Bd.named
  have hnm := (name_of_methodNamed Bd.named Bd.method).1
  have X0 : Stand p l e room_1 s m #[(.int p0), (.int p1), (.long q2), (.long q3)] below meth c s₁ [] 0 0 := Stand.of_body Bd
  have e0 : s₁.heap = h0 := by rw [← hh, Bd.state]; rfl
  have N0 := Fr.nil n0
  have tt := own_tt hx hby own_ok0
  show own_Ends p e below s (Q0 Z p0 p1 q2 q3 wd kd h0 n0) _ _ s₁ _
  rw [ef_rm0 m p0 p1 q2 q3]
  refine own_go (T' := s₁) (f' := (mkF m 6 #[.val (.int p0), .val (.int p1), .val (.long q2), oS, .val (.long q3), oS, .val (.long (q2 &&& q3)), oS, oU, oU, oU] [])) (fun _ k => own_e X0 tt 0 4 k rfl) ?_
  generalize hzd : (q2 &&& q3) = zd
  refine own_go (T' := s₁) (f' := (mkF m 9 #[.val (.int p0), .val (.int p1), .val (.long q2), oS, .val (.long q3), oS, .val (.long zd), oS, oU, oU, oU] [(.int (p0 &&& (1 : Int32)))])) (fun _ k => own_e X0 tt 6 3 k rfl) ?_
  by_cases hc1 : (p0 &&& (1 : Int32)) = (0 : Int32)
  · refine own_go (T' := s₁) (f' := (mkF m 12 #[.val (.int p0), .val (.int p1), .val (.long q2), oS, .val (.long q3), oS, .val (.long zd), oS, oU, oU, oU] [])) (fun _ k => XS.ifNo X0.here hx rfl (hb hby at_9) rfl ((if0 _ _).trans (teq hc1).2) k) ?_
    obtain ⟨T2, h2, X2, e2, E2, A2, D2, -, st2⟩ := newO X0 hx hZ hown (ow0 hw) (ow1 hw) (ow2 hw) e0 (g := (mkF m 12 #[.val (.int p0), .val (.int p1), .val (.long q2), oS, .val (.long q3), oS, .val (.long zd), oS, oU, oU, oU] [])) rfl (hb hby at_12) (by decide) (by decide)
    obtain ⟨b2, g_b2⟩ : ∃ z, z = h0.size := ⟨_, rfl⟩
    have sg_b2 : h0.size ≤ b2 := Nat.le_of_eq g_b2.symm
    rw [← g_b2] at A2 D2 st2
    have n_b2 := oT Z0 sg_b2
    have sz_b2 := oT (Keep.refl h0 []).1 sg_b2
    have K2 : Keep h0 h2 [] := (Keep.refl h0 []).ext E2
    have F_fromShifts_b2 : oF3 Z h2 b2 .null := D2 (Or.inr (ow92 hw)) (ty := (.array (.array .int))) (by decide)
    have F_widths_b2 : oF4 Z h2 b2 .null := D2 (Or.inr (ow94 hw)) (ty := (.array (.array .int))) (by decide)
    have F_prefixes_b2 : oF5 Z h2 b2 .null := D2 (Or.inr (ow96 hw)) (ty := (.array .int)) (by decide)
    have F_earlierPrefixes_b2 : oF6 Z h2 b2 .null := D2 (Or.inr (ow122 hw)) (ty := (.array (.array .long))) (by decide)
    refine own_go (T' := T2) (f' := (mkF m 18 #[.val (.int p0), .val (.int p1), .val (.long q2), oS, .val (.long q3), oS, .val (.long zd), oS, oU, oU, oU] [vI 2, vI 1, vR b2, vR b2])) (fun _ k => st2 _ (own_e X2 tt 15 3 k rfl)) ?_
    obtain ⟨_, T78, Lc78, X78, hQ78, st78⟩ := own_out (X2.specialBack hx (y := mn19) rfl hown (mvT hZ (ow3 hw)) (mvT hZ (ow4 hw)) (mvT hZ (ow5 hw)) (by decide) (backOf (W := 1) (rm1a1 l Z a0 hw [] b2 wd kd h2 n0 (oT Z0 E2.1) (S_d.ext E2) (V_d.ext E2) A2 F_fromShifts_b2 F_widths_b2 F_prefixes_b2 F_earlierPrefixes_b2 n_b2) hZ (ow5 hw) (ow2 hw) (by decide) (by decide)) (g := (mkF m 18 #[.val (.int p0), .val (.int p1), .val (.long q2), oS, .val (.long q3), oS, .val (.long zd), oS, oU, oU, oU] [vI 2, vI 1, vR b2, vR b2])) rfl (by rw [hml]; rfl) (Steps.refl _) (a := b2) (argsL := [(.int (1 : Int32)), (.int (2 : Int32))]) (rest := [(.ref b2)]) (lenOf pd8 rfl) rfl (by show 2 * 0 + _ ≤ _; exact Nat.le_of_eq rfl) (hb hby at_18) (fun _ _ => ⟨rfl, e2, (by decide : 1 + 20 ≤ _), (by decide : 4 + 44 ≤ _)⟩))
    obtain ⟨b78a, k78b, b78c, k78d, b78e, b78f, k78g, b78h, k78i, b78j, b78k, k78l, b78m, k78n, b78o, k78p, b78q, k78r, rfl, N78q, K78, n_b78a, sg_b78a, n_b78c, sg_b78c, n_b78e, sg_b78e, n_b78f, sg_b78f, n_b78h, sg_b78h, n_b78j, sg_b78j, n_b78k, sg_b78k, n_b78m, sg_b78m, n_b78o, sg_b78o, n_b78q, sg_b78q, ne78_0, ne78_1, ne78_2, ne78_3, ne78_4, ne78_5, ne78_6, ne78_7, ne78_8, ne78_9, ne78_10, ne78_11, ne78_12, ne78_13, ne78_14, ne78_15, ne78_16, ne78_17, ne78_18, ne78_19, ne78_20, ne78_21, ne78_22, ne78_23, ne78_24, ne78_25, ne78_26, ne78_27, ne78_28, ne78_29, ne78_30, ne78_31, ne78_32, ne78_33, ne78_34, ne78_35, ne78_36, ne78_37, ne78_38, ne78_39, ne78_40, ne78_41, ne78_42, ne78_43, ne78_44, g78_0, g78_1, g78_2, g78_3, g78_4, g78_5, g78_6, g78_7, g78_8, g78_9, g78_10, g78_11, g78_12, g78_13, g78_14, g78_15, g78_16, g78_17, g78_18, g78_19, g78_20, g78_21, g78_22, g78_23, g78_24, g78_25, g78_26⟩ := hQ78
    have N78 := Fr.app N0 N78q
    have sz_b78a := oT K2.1 sg_b78a
    have sz_b78c := oT K2.1 sg_b78c
    have sz_b78e := oT K2.1 sg_b78e
    have sz_b78f := oT K2.1 sg_b78f
    have sz_b78h := oT K2.1 sg_b78h
    have sz_b78j := oT K2.1 sg_b78j
    have sz_b78k := oT K2.1 sg_b78k
    have sz_b78m := oT K2.1 sg_b78m
    have sz_b78o := oT K2.1 sg_b78o
    have sz_b78q := oT K2.1 sg_b78q
    have u79 : b2 < h2.size := A2.lt
    have m80 : h0.size ≤ h2.size := (oT (Nat.le_refl _) E2.1)
    have eK78 : T78.heap = T78.heap := rfl
    have KK78 : Keep h0 T78.heap [] := Keep.trans K2 K78 (allS (Or.inr sz_b2) all0)
    obtain ⟨_, X78, N78⟩ := own_hide X78 N78
    refine own_go (T' := T78) (f' := (mkF m 24 #[.val (.int p0), .val (.int p1), .val (.long q2), oS, .val (.long q3), oS, .val (.long zd), oS, oR b2, oU, oU] [(.int p1)])) (fun _ k => st78.trans (own_e X78 tt 21 2 k rfl)) ?_
    refine own_go (T' := T78) (f' := (mkF m 28 #[.val (.int p0), .val (.int p1), .val (.long q2), oS, .val (.long q3), oS, .val (.long zd), oS, oR b2, oU, oU] [vI 2, (.int (p1 &&& (2147483647 : Int32)))])) (fun _ k => X78.ldcInt hx hown (mvT hZ (ow135 hw)) (g := (mkF m 24 #[.val (.int p0), .val (.int p1), .val (.long q2), oS, .val (.long q3), oS, .val (.long zd), oS, oR b2, oU, oU] [(.int p1)])) rfl (hb hby at_24) _ (own_e X78 tt 26 2 k rfl)) ?_
    refine own_go (T' := T78) (f' := (mkF m 31 #[.val (.int p0), .val (.int p1), .val (.long q2), oS, .val (.long q3), oS, .val (.long zd), oS, oR b2, .val (.int ((p1 &&& (2147483647 : Int32)) % (2 : Int32))), oU] [])) (fun _ k => iremM X78 hx rfl (hb hby at_28) rfl (by decide) (own_e X78 tt 29 1 k rfl)) ?_
    generalize hzt : ((p1 &&& (2147483647 : Int32)) % (2 : Int32)) = zt
    have ht81 := own_m2 p1
    rw [hzt] at ht81
    rcases ht81 with rfl | rfl
    · refine own_go (T' := T78) (f' := (mkF m 61 #[.val (.int p0), .val (.int p1), .val (.long q2), oS, .val (.long q3), oS, .val (.long zd), oS, oR b2, oI 0, oI 0] [(.long zd), vI 0, vR b2])) (fun _ k => own_e X78 tt 31 8 k rfl) ?_
      obtain ⟨cq82, kq82, q82a, q82b, q82c⟩ := isOf hZ eK78 (A2.keep K78)
      obtain ⟨_, T82, Lc82, X82, hQ82, st82⟩ := own_out (X78.virtualBack hx (y := mn20) (z := mn20) hown (mvT hZ (ow137 hw)) (mvT hZ (ow138 hw)) (notFace_of_selects (args := #[]) (mvT hZ (ow140 hw))) (mvT hZ (ow140 hw)) (mvT hZ (ow139 hw)) (by decide) (backOf (W := 0) (rm19a26 l Z a0 hw [] b2 zd b78m k78n b78o b78q k78p T78.heap n0 (oT (oT Z0 E2.1) K78.1) g78_3 g78_20 g78_23) hZ (ow141 hw) (ow2 hw) (by decide) (by decide)) q82a q82c (g := (mkF m 61 #[.val (.int p0), .val (.int p1), .val (.long q2), oS, .val (.long q3), oS, .val (.long zd), oS, oR b2, oI 0, oI 0] [(.long zd), vI 0, vR b2])) rfl (by rw [hml]; rfl) (Steps.refl _) (argsL := [(.int (0 : Int32)), (.long zd)]) (rest := []) (lenOf pd12 rfl) rfl (by show 2 * 0 + _ ≤ _; exact Nat.le_of_eq rfl) (hb hby at_61) (fun _ _ => ⟨rfl, eK78, (by decide : 21 + 0 ≤ _), (by decide : 48 + 0 ≤ _)⟩))
      obtain ⟨rfl, N82q, hh82⟩ := hQ82
      have N82 := Fr.app N78 N82q
      obtain ⟨_, X82, N82⟩ := own_hide X82 N82
      refine own_go (T' := T82) (f' := (mkF m 74 #[.val (.int p0), .val (.int p1), .val (.long q2), oS, .val (.long q3), oS, .val (.long zd), oS, oR b2, oI 0, oI 0] [vI 1])) (fun _ k => st82.trans (own_e X82 tt 64 4 k rfl)) ?_
      refine own_ret X82 (v := some (.int (1 : Int32))) (oN Bd.returns) Bd.notSynchronized (fun fs hr => retN X82 hx (t := .boolean) Bd.returns (by simp) (hb hby at_74) hr) ?_ (by decide) (by decide)
      unfold Q0
      exact ⟨rfl, N82⟩
    · refine own_go (T' := T78) (f' := (mkF m 39 #[.val (.int p0), .val (.int p1), .val (.long q2), oS, .val (.long q3), oS, .val (.long zd), oS, oR b2, oI 1, oU] [(.long zd)])) (fun _ k => own_e X78 tt 31 4 k rfl) ?_
      refine own_go (T' := T78) (f' := (mkF m 45 #[.val (.int p0), .val (.int p1), .val (.long q2), oS, .val (.long q3), oS, .val (.long zd), oS, oR b2, oI 1, oU] [(.int (lcmpW (zd &&& (4294967295 : Int64)) (0 : Int64)))])) (fun _ k => X78.ldc2Long hx hown (mvT hZ (ow136 hw)) (g := (mkF m 39 #[.val (.int p0), .val (.int p1), .val (.long q2), oS, .val (.long q3), oS, .val (.long zd), oS, oR b2, oI 1, oU] [(.long zd)])) rfl (hb hby at_39) _ (own_e X78 tt 42 3 k rfl)) ?_
      by_cases hc83 : (zd &&& (4294967295 : Int64)) = (0 : Int64)
      · refine own_go (T' := T78) (f' := (mkF m 61 #[.val (.int p0), .val (.int p1), .val (.long q2), oS, .val (.long q3), oS, .val (.long zd), oS, oR b2, oI 1, oI 1] [(.long zd), vI 1, vR b2])) (fun _ k => XS.ifNo X78.here hx rfl (hb hby at_45) rfl ((if0 _ _).trans (teq ((own_lc_eq (a := (zd &&& (4294967295 : Int64))) (b := (0 : Int64))).mpr hc83)).2) (own_e X78 tt 48 6 k rfl)) ?_
        obtain ⟨cq84, kq84, q84a, q84b, q84c⟩ := isOf hZ eK78 (A2.keep K78)
        obtain ⟨_, T84, Lc84, X84, hQ84, st84⟩ := own_out (X78.virtualBack hx (y := mn20) (z := mn20) hown (mvT hZ (ow137 hw)) (mvT hZ (ow138 hw)) (notFace_of_selects (args := #[]) (mvT hZ (ow140 hw))) (mvT hZ (ow140 hw)) (mvT hZ (ow139 hw)) (by decide) (backOf (W := 0) (rm19a27 l Z a0 hw [] b2 zd b78m k78n b78o b78q k78r T78.heap n0 (oT (oT Z0 E2.1) K78.1) g78_3 g78_20 g78_25 hc83) hZ (ow141 hw) (ow2 hw) (by decide) (by decide)) q84a q84c (g := (mkF m 61 #[.val (.int p0), .val (.int p1), .val (.long q2), oS, .val (.long q3), oS, .val (.long zd), oS, oR b2, oI 1, oI 1] [(.long zd), vI 1, vR b2])) rfl (by rw [hml]; rfl) (Steps.refl _) (argsL := [(.int (1 : Int32)), (.long zd)]) (rest := []) (lenOf pd12 rfl) rfl (by show 2 * 0 + _ ≤ _; exact Nat.le_of_eq rfl) (hb hby at_61) (fun _ _ => ⟨rfl, eK78, (by decide : 21 + 0 ≤ _), (by decide : 48 + 0 ≤ _)⟩))
        obtain ⟨rfl, N84q, hh84⟩ := hQ84
        have N84 := Fr.app N78 N84q
        obtain ⟨_, X84, N84⟩ := own_hide X84 N84
        refine own_go (T' := T84) (f' := (mkF m 74 #[.val (.int p0), .val (.int p1), .val (.long q2), oS, .val (.long q3), oS, .val (.long zd), oS, oR b2, oI 1, oI 1] [vI 1])) (fun _ k => st84.trans (own_e X84 tt 64 4 k rfl)) ?_
        refine own_ret X84 (v := some (.int (1 : Int32))) (oN Bd.returns) Bd.notSynchronized (fun fs hr => retN X84 hx (t := .boolean) Bd.returns (by simp) (hb hby at_74) hr) ?_ (by decide) (by decide)
        unfold Q0
        exact ⟨rfl, N84⟩
      · refine own_go (T' := T78) (f' := (mkF m 61 #[.val (.int p0), .val (.int p1), .val (.long q2), oS, .val (.long q3), oS, .val (.long zd), oS, oR b2, oI 1, oI 0] [(.long zd), vI 1, vR b2])) (fun _ k => XS.ifYes X78.here hx rfl (pc0 := 45) (pc' := 52) rfl (hb hby at_45) rfl ((if0 _ _).trans (feq ((not_congr (own_lc_eq (a := (zd &&& (4294967295 : Int64))) (b := (0 : Int64)))).mpr hc83)).2) (by decide) (by decide) (own_e X78 tt 52 5 k rfl)) ?_
        obtain ⟨cq85, kq85, q85a, q85b, q85c⟩ := isOf hZ eK78 (A2.keep K78)
        obtain ⟨_, T85, Lc85, X85, hQ85, st85⟩ := own_out (X78.virtualBack hx (y := mn20) (z := mn20) hown (mvT hZ (ow137 hw)) (mvT hZ (ow138 hw)) (notFace_of_selects (args := #[]) (mvT hZ (ow140 hw))) (mvT hZ (ow140 hw)) (mvT hZ (ow139 hw)) (by decide) (backOf (W := 0) (rm19a28 l Z a0 hw [] b2 zd b78m k78n b78o b78q k78r T78.heap n0 (oT (oT Z0 E2.1) K78.1) g78_3 g78_20 g78_25 hc83) hZ (ow141 hw) (ow2 hw) (by decide) (by decide)) q85a q85c (g := (mkF m 61 #[.val (.int p0), .val (.int p1), .val (.long q2), oS, .val (.long q3), oS, .val (.long zd), oS, oR b2, oI 1, oI 0] [(.long zd), vI 1, vR b2])) rfl (by rw [hml]; rfl) (Steps.refl _) (argsL := [(.int (1 : Int32)), (.long zd)]) (rest := []) (lenOf pd12 rfl) rfl (by show 2 * 0 + _ ≤ _; exact Nat.le_of_eq rfl) (hb hby at_61) (fun _ _ => ⟨rfl, eK78, (by decide : 21 + 0 ≤ _), (by decide : 48 + 0 ≤ _)⟩))
        obtain ⟨rfl, N85q, hh85⟩ := hQ85
        have N85 := Fr.app N78 N85q
        obtain ⟨_, X85, N85⟩ := own_hide X85 N85
        refine own_go (T' := T85) (f' := (mkF m 74 #[.val (.int p0), .val (.int p1), .val (.long q2), oS, .val (.long q3), oS, .val (.long zd), oS, oR b2, oI 1, oI 0] [vI 1])) (fun _ k => st85.trans (own_e X85 tt 64 4 k rfl)) ?_
        refine own_ret X85 (v := some (.int (1 : Int32))) (oN Bd.returns) Bd.notSynchronized (fun fs hr => retN X85 hx (t := .boolean) Bd.returns (by simp) (hb hby at_74) hr) ?_ (by decide) (by decide)
        unfold Q0
        exact ⟨rfl, N85⟩
  · refine own_go (T' := s₁) (f' := (mkF m 75 #[.val (.int p0), .val (.int p1), .val (.long q2), oS, .val (.long q3), oS, .val (.long zd), oS, oU, oU, oU] [])) (fun _ k => XS.ifYes X0.here hx rfl (pc0 := 9) (pc' := 75) rfl (hb hby at_9) rfl ((if0 _ _).trans (feq hc1).2) (by decide) (by decide) k) ?_
    obtain ⟨T86, h86, X86, e86, E86, A86, D86, -, st86⟩ := newO X0 hx hZ hown (ow0 hw) (ow1 hw) (ow2 hw) e0 (g := (mkF m 75 #[.val (.int p0), .val (.int p1), .val (.long q2), oS, .val (.long q3), oS, .val (.long zd), oS, oU, oU, oU] [])) rfl (hb hby at_75) (by decide) (by decide)
    obtain ⟨b86, g_b86⟩ : ∃ z, z = h0.size := ⟨_, rfl⟩
    have sg_b86 : h0.size ≤ b86 := Nat.le_of_eq g_b86.symm
    rw [← g_b86] at A86 D86 st86
    have n_b86 := oT Z0 sg_b86
    have sz_b86 := oT (Keep.refl h0 []).1 sg_b86
    have K86 : Keep h0 h86 [] := (Keep.refl h0 []).ext E86
    have F_fromShifts_b86 : oF3 Z h86 b86 .null := D86 (Or.inr (ow92 hw)) (ty := (.array (.array .int))) (by decide)
    have F_widths_b86 : oF4 Z h86 b86 .null := D86 (Or.inr (ow94 hw)) (ty := (.array (.array .int))) (by decide)
    have F_prefixes_b86 : oF5 Z h86 b86 .null := D86 (Or.inr (ow96 hw)) (ty := (.array .int)) (by decide)
    have F_earlierPrefixes_b86 : oF6 Z h86 b86 .null := D86 (Or.inr (ow122 hw)) (ty := (.array (.array .long))) (by decide)
    refine own_go (T' := T86) (f' := (mkF m 81 #[.val (.int p0), .val (.int p1), .val (.long q2), oS, .val (.long q3), oS, .val (.long zd), oS, oU, oU, oU] [vI 3, vI 1, vR b86, vR b86])) (fun _ k => st86 _ (own_e X86 tt 78 3 k rfl)) ?_
    obtain ⟨_, T87, Lc87, X87, hQ87, st87⟩ := own_out (X86.specialBack hx (y := mn19) rfl hown (mvT hZ (ow3 hw)) (mvT hZ (ow4 hw)) (mvT hZ (ow5 hw)) (by decide) (backOf (W := 1) (rm1a29 l Z a0 hw [] b86 wd kd h86 n0 (oT Z0 E86.1) (S_d.ext E86) (V_d.ext E86) A86 F_fromShifts_b86 F_widths_b86 F_prefixes_b86 F_earlierPrefixes_b86 n_b86) hZ (ow5 hw) (ow2 hw) (by decide) (by decide)) (g := (mkF m 81 #[.val (.int p0), .val (.int p1), .val (.long q2), oS, .val (.long q3), oS, .val (.long zd), oS, oU, oU, oU] [vI 3, vI 1, vR b86, vR b86])) rfl (by rw [hml]; rfl) (Steps.refl _) (a := b86) (argsL := [(.int (1 : Int32)), (.int (3 : Int32))]) (rest := [(.ref b86)]) (lenOf pd8 rfl) rfl (by show 2 * 0 + _ ≤ _; exact Nat.le_of_eq rfl) (hb hby at_81) (fun _ _ => ⟨rfl, e86, (by decide : 1 + 26 ≤ _), (by decide : 4 + 73 ≤ _)⟩))
    obtain ⟨b87a, k87b, b87c, k87d, b87e, b87f, b87g, k87h, b87i, k87j, b87k, b87l, b87m, k87n, b87o, k87p, b87q, k87r, b87s, k87t, b87u, k87v, rfl, N87q, K87, n_b87a, sg_b87a, n_b87c, sg_b87c, n_b87e, sg_b87e, n_b87f, sg_b87f, n_b87g, sg_b87g, n_b87i, sg_b87i, n_b87k, sg_b87k, n_b87l, sg_b87l, n_b87m, sg_b87m, n_b87o, sg_b87o, n_b87q, sg_b87q, n_b87s, sg_b87s, n_b87u, sg_b87u, ne87_0, ne87_1, ne87_2, ne87_3, ne87_4, ne87_5, ne87_6, ne87_7, ne87_8, ne87_9, ne87_10, ne87_11, ne87_12, ne87_13, ne87_14, ne87_15, ne87_16, ne87_17, ne87_18, ne87_19, ne87_20, ne87_21, ne87_22, ne87_23, ne87_24, ne87_25, ne87_26, ne87_27, ne87_28, ne87_29, ne87_30, ne87_31, ne87_32, ne87_33, ne87_34, ne87_35, ne87_36, ne87_37, ne87_38, ne87_39, ne87_40, ne87_41, ne87_42, ne87_43, ne87_44, ne87_45, ne87_46, ne87_47, ne87_48, ne87_49, ne87_50, ne87_51, ne87_52, ne87_53, ne87_54, ne87_55, ne87_56, ne87_57, ne87_58, ne87_59, ne87_60, ne87_61, ne87_62, ne87_63, ne87_64, ne87_65, ne87_66, ne87_67, ne87_68, ne87_69, ne87_70, ne87_71, ne87_72, ne87_73, ne87_74, ne87_75, ne87_76, ne87_77, g87_0, g87_1, g87_2, g87_3, g87_4, g87_5, g87_6, g87_7, g87_8, g87_9, g87_10, g87_11, g87_12, g87_13, g87_14, g87_15, g87_16, g87_17, g87_18, g87_19, g87_20, g87_21, g87_22, g87_23, g87_24, g87_25, g87_26, g87_27, g87_28, g87_29, g87_30, g87_31, g87_32⟩ := hQ87
    have N87 := Fr.app N0 N87q
    have sz_b87a := oT K86.1 sg_b87a
    have sz_b87c := oT K86.1 sg_b87c
    have sz_b87e := oT K86.1 sg_b87e
    have sz_b87f := oT K86.1 sg_b87f
    have sz_b87g := oT K86.1 sg_b87g
    have sz_b87i := oT K86.1 sg_b87i
    have sz_b87k := oT K86.1 sg_b87k
    have sz_b87l := oT K86.1 sg_b87l
    have sz_b87m := oT K86.1 sg_b87m
    have sz_b87o := oT K86.1 sg_b87o
    have sz_b87q := oT K86.1 sg_b87q
    have sz_b87s := oT K86.1 sg_b87s
    have sz_b87u := oT K86.1 sg_b87u
    have u88 : b86 < h86.size := A86.lt
    have m89 : h0.size ≤ h86.size := (oT (Nat.le_refl _) E86.1)
    have eK87 : T87.heap = T87.heap := rfl
    have KK87 : Keep h0 T87.heap [] := Keep.trans K86 K87 (allS (Or.inr sz_b86) all0)
    obtain ⟨_, X87, N87⟩ := own_hide X87 N87
    refine own_go (T' := T87) (f' := (mkF m 87 #[.val (.int p0), .val (.int p1), .val (.long q2), oS, .val (.long q3), oS, .val (.long zd), oS, oR b86, oU, oU] [(.int p1)])) (fun _ k => st87.trans (own_e X87 tt 84 2 k rfl)) ?_
    refine own_go (T' := T87) (f' := (mkF m 91 #[.val (.int p0), .val (.int p1), .val (.long q2), oS, .val (.long q3), oS, .val (.long zd), oS, oR b86, oU, oU] [vI 3, (.int (p1 &&& (2147483647 : Int32)))])) (fun _ k => X87.ldcInt hx hown (mvT hZ (ow135 hw)) (g := (mkF m 87 #[.val (.int p0), .val (.int p1), .val (.long q2), oS, .val (.long q3), oS, .val (.long zd), oS, oR b86, oU, oU] [(.int p1)])) rfl (hb hby at_87) _ (own_e X87 tt 89 2 k rfl)) ?_
    refine own_go (T' := T87) (f' := (mkF m 94 #[.val (.int p0), .val (.int p1), .val (.long q2), oS, .val (.long q3), oS, .val (.long zd), oS, oR b86, .val (.int ((p1 &&& (2147483647 : Int32)) % (3 : Int32))), oU] [])) (fun _ k => iremM X87 hx rfl (hb hby at_91) rfl (by decide) (own_e X87 tt 92 1 k rfl)) ?_
    generalize hzt : ((p1 &&& (2147483647 : Int32)) % (3 : Int32)) = zt
    have ht90 := own_m3 p1
    rw [hzt] at ht90
    rcases ht90 with rfl | rfl | rfl
    · refine own_go (T' := T87) (f' := (mkF m 167 #[.val (.int p0), .val (.int p1), .val (.long q2), oS, .val (.long q3), oS, .val (.long zd), oS, oR b86, oI 0, oI 0] [(.long zd), vI 0, vR b86])) (fun _ k => own_e X87 tt 94 8 k rfl) ?_
      obtain ⟨cq91, kq91, q91a, q91b, q91c⟩ := isOf hZ eK87 (A86.keep K87)
      obtain ⟨_, T91, Lc91, X91, hQ91, st91⟩ := own_out (X87.virtualBack hx (y := mn20) (z := mn20) hown (mvT hZ (ow137 hw)) (mvT hZ (ow138 hw)) (notFace_of_selects (args := #[]) (mvT hZ (ow140 hw))) (mvT hZ (ow140 hw)) (mvT hZ (ow139 hw)) (by decide) (backOf (W := 0) (rm19a56 l Z a0 hw [] b86 zd b87o k87p b87q b87s b87u k87r T87.heap n0 (oT (oT Z0 E86.1) K87.1) g87_3 g87_24 g87_27) hZ (ow141 hw) (ow2 hw) (by decide) (by decide)) q91a q91c (g := (mkF m 167 #[.val (.int p0), .val (.int p1), .val (.long q2), oS, .val (.long q3), oS, .val (.long zd), oS, oR b86, oI 0, oI 0] [(.long zd), vI 0, vR b86])) rfl (by rw [hml]; rfl) (Steps.refl _) (argsL := [(.int (0 : Int32)), (.long zd)]) (rest := []) (lenOf pd12 rfl) rfl (by show 2 * 0 + _ ≤ _; exact Nat.le_of_eq rfl) (hb hby at_167) (fun _ _ => ⟨rfl, eK87, (by decide : 27 + 0 ≤ _), (by decide : 77 + 0 ≤ _)⟩))
      obtain ⟨rfl, N91q, hh91⟩ := hQ91
      have N91 := Fr.app N87 N91q
      obtain ⟨_, X91, N91⟩ := own_hide X91 N91
      refine own_go (T' := T91) (f' := (mkF m 180 #[.val (.int p0), .val (.int p1), .val (.long q2), oS, .val (.long q3), oS, .val (.long zd), oS, oR b86, oI 0, oI 0] [vI 1])) (fun _ k => st91.trans (own_e X91 tt 170 4 k rfl)) ?_
      refine own_ret X91 (v := some (.int (1 : Int32))) (oN Bd.returns) Bd.notSynchronized (fun fs hr => retN X91 hx (t := .boolean) Bd.returns (by simp) (hb hby at_180) hr) ?_ (by decide) (by decide)
      unfold Q0
      exact ⟨rfl, N91⟩
    · refine own_go (T' := T87) (f' := (mkF m 113 #[.val (.int p0), .val (.int p1), .val (.long q2), oS, .val (.long q3), oS, .val (.long zd), oS, oR b86, oI 1, oU] [(.long zd)])) (fun _ k => own_e X87 tt 94 6 k rfl) ?_
      refine own_go (T' := T87) (f' := (mkF m 119 #[.val (.int p0), .val (.int p1), .val (.long q2), oS, .val (.long q3), oS, .val (.long zd), oS, oR b86, oI 1, oU] [(.int (lcmpW (zd &&& (-4398044413953 : Int64)) (0 : Int64)))])) (fun _ k => X87.ldc2Long hx hown (mvT hZ (ow144 hw)) (g := (mkF m 113 #[.val (.int p0), .val (.int p1), .val (.long q2), oS, .val (.long q3), oS, .val (.long zd), oS, oR b86, oI 1, oU] [(.long zd)])) rfl (hb hby at_113) _ (own_e X87 tt 116 3 k rfl)) ?_
      by_cases hc92 : (zd &&& (-4398044413953 : Int64)) = (0 : Int64)
      · refine own_go (T' := T87) (f' := (mkF m 167 #[.val (.int p0), .val (.int p1), .val (.long q2), oS, .val (.long q3), oS, .val (.long zd), oS, oR b86, oI 1, oI 1] [(.long zd), vI 1, vR b86])) (fun _ k => XS.ifNo X87.here hx rfl (hb hby at_119) rfl ((if0 _ _).trans (teq ((own_lc_eq (a := (zd &&& (-4398044413953 : Int64))) (b := (0 : Int64))).mpr hc92)).2) (own_e X87 tt 122 7 k rfl)) ?_
        obtain ⟨cq93, kq93, q93a, q93b, q93c⟩ := isOf hZ eK87 (A86.keep K87)
        obtain ⟨_, T93, Lc93, X93, hQ93, st93⟩ := own_out (X87.virtualBack hx (y := mn20) (z := mn20) hown (mvT hZ (ow137 hw)) (mvT hZ (ow138 hw)) (notFace_of_selects (args := #[]) (mvT hZ (ow140 hw))) (mvT hZ (ow140 hw)) (mvT hZ (ow139 hw)) (by decide) (backOf (W := 0) (rm19a57 l Z a0 hw [] b86 zd b87o k87p b87q b87s b87u k87t T87.heap n0 (oT (oT Z0 E86.1) K87.1) g87_3 g87_24 g87_29 hc92) hZ (ow141 hw) (ow2 hw) (by decide) (by decide)) q93a q93c (g := (mkF m 167 #[.val (.int p0), .val (.int p1), .val (.long q2), oS, .val (.long q3), oS, .val (.long zd), oS, oR b86, oI 1, oI 1] [(.long zd), vI 1, vR b86])) rfl (by rw [hml]; rfl) (Steps.refl _) (argsL := [(.int (1 : Int32)), (.long zd)]) (rest := []) (lenOf pd12 rfl) rfl (by show 2 * 0 + _ ≤ _; exact Nat.le_of_eq rfl) (hb hby at_167) (fun _ _ => ⟨rfl, eK87, (by decide : 27 + 0 ≤ _), (by decide : 77 + 0 ≤ _)⟩))
        obtain ⟨rfl, N93q, hh93⟩ := hQ93
        have N93 := Fr.app N87 N93q
        obtain ⟨_, X93, N93⟩ := own_hide X93 N93
        refine own_go (T' := T93) (f' := (mkF m 180 #[.val (.int p0), .val (.int p1), .val (.long q2), oS, .val (.long q3), oS, .val (.long zd), oS, oR b86, oI 1, oI 1] [vI 1])) (fun _ k => st93.trans (own_e X93 tt 170 4 k rfl)) ?_
        refine own_ret X93 (v := some (.int (1 : Int32))) (oN Bd.returns) Bd.notSynchronized (fun fs hr => retN X93 hx (t := .boolean) Bd.returns (by simp) (hb hby at_180) hr) ?_ (by decide) (by decide)
        unfold Q0
        exact ⟨rfl, N93⟩
      · refine own_go (T' := T87) (f' := (mkF m 167 #[.val (.int p0), .val (.int p1), .val (.long q2), oS, .val (.long q3), oS, .val (.long zd), oS, oR b86, oI 1, oI 0] [(.long zd), vI 1, vR b86])) (fun _ k => XS.ifYes X87.here hx rfl (pc0 := 119) (pc' := 126) rfl (hb hby at_119) rfl ((if0 _ _).trans (feq ((not_congr (own_lc_eq (a := (zd &&& (-4398044413953 : Int64))) (b := (0 : Int64)))).mpr hc92)).2) (by decide) (by decide) (own_e X87 tt 126 6 k rfl)) ?_
        obtain ⟨cq94, kq94, q94a, q94b, q94c⟩ := isOf hZ eK87 (A86.keep K87)
        obtain ⟨_, T94, Lc94, X94, hQ94, st94⟩ := own_out (X87.virtualBack hx (y := mn20) (z := mn20) hown (mvT hZ (ow137 hw)) (mvT hZ (ow138 hw)) (notFace_of_selects (args := #[]) (mvT hZ (ow140 hw))) (mvT hZ (ow140 hw)) (mvT hZ (ow139 hw)) (by decide) (backOf (W := 0) (rm19a58 l Z a0 hw [] b86 zd b87o k87p b87q b87s b87u k87t T87.heap n0 (oT (oT Z0 E86.1) K87.1) g87_3 g87_24 g87_29 hc92) hZ (ow141 hw) (ow2 hw) (by decide) (by decide)) q94a q94c (g := (mkF m 167 #[.val (.int p0), .val (.int p1), .val (.long q2), oS, .val (.long q3), oS, .val (.long zd), oS, oR b86, oI 1, oI 0] [(.long zd), vI 1, vR b86])) rfl (by rw [hml]; rfl) (Steps.refl _) (argsL := [(.int (1 : Int32)), (.long zd)]) (rest := []) (lenOf pd12 rfl) rfl (by show 2 * 0 + _ ≤ _; exact Nat.le_of_eq rfl) (hb hby at_167) (fun _ _ => ⟨rfl, eK87, (by decide : 27 + 0 ≤ _), (by decide : 77 + 0 ≤ _)⟩))
        obtain ⟨rfl, N94q, hh94⟩ := hQ94
        have N94 := Fr.app N87 N94q
        obtain ⟨_, X94, N94⟩ := own_hide X94 N94
        refine own_go (T' := T94) (f' := (mkF m 180 #[.val (.int p0), .val (.int p1), .val (.long q2), oS, .val (.long q3), oS, .val (.long zd), oS, oR b86, oI 1, oI 0] [vI 1])) (fun _ k => st94.trans (own_e X94 tt 170 4 k rfl)) ?_
        refine own_ret X94 (v := some (.int (1 : Int32))) (oN Bd.returns) Bd.notSynchronized (fun fs hr => retN X94 hx (t := .boolean) Bd.returns (by simp) (hb hby at_180) hr) ?_ (by decide) (by decide)
        unfold Q0
        exact ⟨rfl, N94⟩
    · refine own_go (T' := T87) (f' := (mkF m 134 #[.val (.int p0), .val (.int p1), .val (.long q2), oS, .val (.long q3), oS, .val (.long zd), oS, oR b86, oI 2, oU] [(.long zd)])) (fun _ k => own_e X87 tt 94 6 k rfl) ?_
      refine own_go (T' := T87) (f' := (mkF m 140 #[.val (.int p0), .val (.int p1), .val (.long q2), oS, .val (.long q3), oS, .val (.long zd), oS, oR b86, oI 2, oU] [(.int (lcmpW (zd &&& (-8796088827905 : Int64)) (0 : Int64)))])) (fun _ k => X87.ldc2Long hx hown (mvT hZ (ow142 hw)) (g := (mkF m 134 #[.val (.int p0), .val (.int p1), .val (.long q2), oS, .val (.long q3), oS, .val (.long zd), oS, oR b86, oI 2, oU] [(.long zd)])) rfl (hb hby at_134) _ (own_e X87 tt 137 3 k rfl)) ?_
      by_cases hc95 : (zd &&& (-8796088827905 : Int64)) = (0 : Int64)
      · refine own_go (T' := T87) (f' := (mkF m 167 #[.val (.int p0), .val (.int p1), .val (.long q2), oS, .val (.long q3), oS, .val (.long zd), oS, oR b86, oI 2, oI 1] [(.long zd), vI 2, vR b86])) (fun _ k => XS.ifYes X87.here hx rfl (pc0 := 140) (pc' := 154) rfl (hb hby at_140) rfl ((if0 _ _).trans (teq ((own_lc_eq (a := (zd &&& (-8796088827905 : Int64))) (b := (0 : Int64))).mpr hc95)).1) (by decide) (by decide) (own_e X87 tt 154 6 k rfl)) ?_
        obtain ⟨cq96, kq96, q96a, q96b, q96c⟩ := isOf hZ eK87 (A86.keep K87)
        obtain ⟨_, T96, Lc96, X96, hQ96, st96⟩ := own_out (X87.virtualBack hx (y := mn20) (z := mn20) hown (mvT hZ (ow137 hw)) (mvT hZ (ow138 hw)) (notFace_of_selects (args := #[]) (mvT hZ (ow140 hw))) (mvT hZ (ow140 hw)) (mvT hZ (ow139 hw)) (by decide) (backOf (W := 0) (rm19a59 l Z a0 hw [] b86 zd b87o k87p b87q b87s b87u k87v T87.heap n0 (oT (oT Z0 E86.1) K87.1) g87_3 g87_24 g87_31 hc95) hZ (ow141 hw) (ow2 hw) (by decide) (by decide)) q96a q96c (g := (mkF m 167 #[.val (.int p0), .val (.int p1), .val (.long q2), oS, .val (.long q3), oS, .val (.long zd), oS, oR b86, oI 2, oI 1] [(.long zd), vI 2, vR b86])) rfl (by rw [hml]; rfl) (Steps.refl _) (argsL := [(.int (2 : Int32)), (.long zd)]) (rest := []) (lenOf pd12 rfl) rfl (by show 2 * 0 + _ ≤ _; exact Nat.le_of_eq rfl) (hb hby at_167) (fun _ _ => ⟨rfl, eK87, (by decide : 27 + 0 ≤ _), (by decide : 77 + 0 ≤ _)⟩))
        obtain ⟨rfl, N96q, hh96⟩ := hQ96
        have N96 := Fr.app N87 N96q
        obtain ⟨_, X96, N96⟩ := own_hide X96 N96
        refine own_go (T' := T96) (f' := (mkF m 180 #[.val (.int p0), .val (.int p1), .val (.long q2), oS, .val (.long q3), oS, .val (.long zd), oS, oR b86, oI 2, oI 1] [vI 1])) (fun _ k => st96.trans (own_e X96 tt 170 4 k rfl)) ?_
        refine own_ret X96 (v := some (.int (1 : Int32))) (oN Bd.returns) Bd.notSynchronized (fun fs hr => retN X96 hx (t := .boolean) Bd.returns (by simp) (hb hby at_180) hr) ?_ (by decide) (by decide)
        unfold Q0
        exact ⟨rfl, N96⟩
      · refine own_go (T' := T87) (f' := (mkF m 145 #[.val (.int p0), .val (.int p1), .val (.long q2), oS, .val (.long q3), oS, .val (.long zd), oS, oR b86, oI 2, oU] [(.long zd)])) (fun _ k => XS.ifNo X87.here hx rfl (hb hby at_140) rfl ((if0 _ _).trans (feq ((not_congr (own_lc_eq (a := (zd &&& (-8796088827905 : Int64))) (b := (0 : Int64)))).mpr hc95)).1) (own_e X87 tt 143 1 k rfl)) ?_
        refine own_go (T' := T87) (f' := (mkF m 151 #[.val (.int p0), .val (.int p1), .val (.long q2), oS, .val (.long q3), oS, .val (.long zd), oS, oR b86, oI 2, oU] [(.int (lcmpW (zd &&& (8796093022207 : Int64)) (0 : Int64)))])) (fun _ k => X87.ldc2Long hx hown (mvT hZ (ow143 hw)) (g := (mkF m 145 #[.val (.int p0), .val (.int p1), .val (.long q2), oS, .val (.long q3), oS, .val (.long zd), oS, oR b86, oI 2, oU] [(.long zd)])) rfl (hb hby at_145) _ (own_e X87 tt 148 3 k rfl)) ?_
        by_cases hc97 : (zd &&& (8796093022207 : Int64)) = (0 : Int64)
        · refine own_go (T' := T87) (f' := (mkF m 167 #[.val (.int p0), .val (.int p1), .val (.long q2), oS, .val (.long q3), oS, .val (.long zd), oS, oR b86, oI 2, oI 1] [(.long zd), vI 2, vR b86])) (fun _ k => XS.ifNo X87.here hx rfl (hb hby at_151) rfl ((if0 _ _).trans (teq ((own_lc_eq (a := (zd &&& (8796093022207 : Int64))) (b := (0 : Int64))).mpr hc97)).2) (own_e X87 tt 154 6 k rfl)) ?_
          obtain ⟨cq98, kq98, q98a, q98b, q98c⟩ := isOf hZ eK87 (A86.keep K87)
          obtain ⟨_, T98, Lc98, X98, hQ98, st98⟩ := own_out (X87.virtualBack hx (y := mn20) (z := mn20) hown (mvT hZ (ow137 hw)) (mvT hZ (ow138 hw)) (notFace_of_selects (args := #[]) (mvT hZ (ow140 hw))) (mvT hZ (ow140 hw)) (mvT hZ (ow139 hw)) (by decide) (backOf (W := 0) (rm19a60 l Z a0 hw [] b86 zd b87o k87p b87q b87s b87u k87v T87.heap n0 (oT (oT Z0 E86.1) K87.1) g87_3 g87_24 g87_31 hc95 hc97) hZ (ow141 hw) (ow2 hw) (by decide) (by decide)) q98a q98c (g := (mkF m 167 #[.val (.int p0), .val (.int p1), .val (.long q2), oS, .val (.long q3), oS, .val (.long zd), oS, oR b86, oI 2, oI 1] [(.long zd), vI 2, vR b86])) rfl (by rw [hml]; rfl) (Steps.refl _) (argsL := [(.int (2 : Int32)), (.long zd)]) (rest := []) (lenOf pd12 rfl) rfl (by show 2 * 0 + _ ≤ _; exact Nat.le_of_eq rfl) (hb hby at_167) (fun _ _ => ⟨rfl, eK87, (by decide : 27 + 0 ≤ _), (by decide : 77 + 0 ≤ _)⟩))
          obtain ⟨rfl, N98q, hh98⟩ := hQ98
          have N98 := Fr.app N87 N98q
          obtain ⟨_, X98, N98⟩ := own_hide X98 N98
          refine own_go (T' := T98) (f' := (mkF m 180 #[.val (.int p0), .val (.int p1), .val (.long q2), oS, .val (.long q3), oS, .val (.long zd), oS, oR b86, oI 2, oI 1] [vI 1])) (fun _ k => st98.trans (own_e X98 tt 170 4 k rfl)) ?_
          refine own_ret X98 (v := some (.int (1 : Int32))) (oN Bd.returns) Bd.notSynchronized (fun fs hr => retN X98 hx (t := .boolean) Bd.returns (by simp) (hb hby at_180) hr) ?_ (by decide) (by decide)
          unfold Q0
          exact ⟨rfl, N98⟩
        · refine own_go (T' := T87) (f' := (mkF m 167 #[.val (.int p0), .val (.int p1), .val (.long q2), oS, .val (.long q3), oS, .val (.long zd), oS, oR b86, oI 2, oI 0] [(.long zd), vI 2, vR b86])) (fun _ k => XS.ifYes X87.here hx rfl (pc0 := 151) (pc' := 158) rfl (hb hby at_151) rfl ((if0 _ _).trans (feq ((not_congr (own_lc_eq (a := (zd &&& (8796093022207 : Int64))) (b := (0 : Int64)))).mpr hc97)).2) (by decide) (by decide) (own_e X87 tt 158 5 k rfl)) ?_
          obtain ⟨cq99, kq99, q99a, q99b, q99c⟩ := isOf hZ eK87 (A86.keep K87)
          obtain ⟨_, T99, Lc99, X99, hQ99, st99⟩ := own_out (X87.virtualBack hx (y := mn20) (z := mn20) hown (mvT hZ (ow137 hw)) (mvT hZ (ow138 hw)) (notFace_of_selects (args := #[]) (mvT hZ (ow140 hw))) (mvT hZ (ow140 hw)) (mvT hZ (ow139 hw)) (by decide) (backOf (W := 0) (rm19a61 l Z a0 hw [] b86 zd b87o k87p b87q b87s b87u k87v T87.heap n0 (oT (oT Z0 E86.1) K87.1) g87_3 g87_24 g87_31 hc95 hc97) hZ (ow141 hw) (ow2 hw) (by decide) (by decide)) q99a q99c (g := (mkF m 167 #[.val (.int p0), .val (.int p1), .val (.long q2), oS, .val (.long q3), oS, .val (.long zd), oS, oR b86, oI 2, oI 0] [(.long zd), vI 2, vR b86])) rfl (by rw [hml]; rfl) (Steps.refl _) (argsL := [(.int (2 : Int32)), (.long zd)]) (rest := []) (lenOf pd12 rfl) rfl (by show 2 * 0 + _ ≤ _; exact Nat.le_of_eq rfl) (hb hby at_167) (fun _ _ => ⟨rfl, eK87, (by decide : 27 + 0 ≤ _), (by decide : 77 + 0 ≤ _)⟩))
          obtain ⟨rfl, N99q, hh99⟩ := hQ99
          have N99 := Fr.app N87 N99q
          obtain ⟨_, X99, N99⟩ := own_hide X99 N99
          refine own_go (T' := T99) (f' := (mkF m 180 #[.val (.int p0), .val (.int p1), .val (.long q2), oS, .val (.long q3), oS, .val (.long zd), oS, oR b86, oI 2, oI 0] [vI 1])) (fun _ k => st99.trans (own_e X99 tt 170 4 k rfl)) ?_
          refine own_ret X99 (v := some (.int (1 : Int32))) (oN Bd.returns) Bd.notSynchronized (fun fs hr => retN X99 hx (t := .boolean) Bd.returns (by simp) (hb hby at_180) hr) ?_ (by decide) (by decide)
          unfold Q0
          exact ⟨rfl, N99⟩
theorem own_empty {s : State} {args : Array Value} {t : Term} {a : Addr} {ty : FieldType} (hf : Fit s) (ev : t.eval args s none [] s = some (.ref a)) (hao : (Cond.arrayOf t ty).before args s = true) (hlen : (Cond.eq (.length t) (.int (0 : Int32))).before args s = true) : ∃ k : ClassId, Arv s s.heap a k ty (0 : Int32) [] .null := by
  obtain ⟨cell, A⟩ := Arr.start ev (Cond.before_iff.mp hao)
  obtain ⟨hsz, hsize⟩ := Jvm.Free.IntBox.length_fwd hlen ev A.1 A.2.1 A.2.2
  exact ⟨cell.cls, Arv.start hf A hsz hsize (by decide) (by decide) trivial⟩
set_option maxRecDepth 65536 in
set_option maxHeartbeats 40000000 in
theorem comes_1 {Post : Tables → Env → Array Value → State → Outcome → State → Prop} (hpost : ∀ tb e args s v u, (limb_1_1.after args s (.returned v) u = true ∧ limb_1_2.after args s (.returned v) u = true ∧ True) → FrameEnd s (.returned v) u (Jvm.fieldLocs frame_1_writes args s ++ Jvm.arrayLocs frame_1_arrays args s ++ Jvm.staticLocs frame_1_statics s) 64 256 → Post tb e args s (.returned v) u) :
    ArmFor flags0 classFile x code maxLocals ret World_1 tables_1 room_1 Calls_1 rest_1 Pre_1 Post := by
  intro l hfl _ _ p e ha hc hk s m args below hf hA hF happ hP
  obtain ⟨hcalls, hrest, hpre⟩ := hP
  obtain ⟨-, -, -, hnamed, -, -, -, hat⟩ := (Spec.applies_iff hf).mp happ
  obtain ⟨hg, hn⟩ := and_e (Cond.before_iff.mp (show (Jvm.Cond.and given_1 narrow_1).before args s = true from hpre))
  obtain ⟨hg_2, hg_3⟩ := and_e hg
  obtain ⟨hg_4, hg_5⟩ := and_e hg_3
  obtain ⟨hg_6, hg_7⟩ := and_e hg_5
  obtain ⟨hg_8, hg_9⟩ := and_e hg_7
  obtain ⟨w0, w1, w2, w3, rfl⟩ : ∃ w0 w1 w2 w3 : Value, args = #[w0, w1, w2, w3] := by
    have hs : args.size = 4 := by simpa [Cond.value, given_1] using hg_2
    obtain ⟨L⟩ := args
    match L, hs with
    | [w0, w1, w2, w3], _ => exact ⟨w0, w1, w2, w3, rfl⟩
  have hw := fun d (hd : d ∈ tables_1) => atoms_spec (ws := Jvm.Cond.code x code maxLocals ret :: tables_1) hat d (List.mem_cons_of_mem _ hd)
  have hfit : Fit s := fun {y c} hc i hi => by
    obtain ⟨ha, rfl⟩ := Array.getElem?_eq_some_iff.mp hc
    have q := List.all_eq_true.mp ((Array.all_eq_true_iff_forall_mem.mp hF) _ (Array.getElem_mem ha)) i (List.mem_range.mpr hi)
    simpa [Array.getElem?_eq_getElem hi] using q
  obtain ⟨hsets, hown0⟩ := atoms_of _ (rest_1_c_eq ▸ (show rest_1_c.before _ s = true from hrest))
  have hr0 := Cond.before_iff.mp hown0
  obtain ⟨i0, ei0⟩ := is_v hg_4
  obtain rfl : w0 = (.int i0) := Option.some.inj ei0
  obtain ⟨i1, ei1⟩ := is_v hg_6
  obtain rfl : w1 = (.int i1) := Option.some.inj ei1
  obtain ⟨i2, ei2⟩ := isL_v hg_8
  obtain rfl : w2 = (.long i2) := Option.some.inj ei2
  obtain ⟨i3, ei3⟩ := isL_v hg_9
  obtain rfl : w3 = (.long i3) := Option.some.inj ei3
  obtain ⟨wd, ewd⟩ := exa_v (Cond.before_iff.mp (hsets _ (List.mem_of_getElem? (i := 7) rfl)))
  have S_d : Sta s s.heap "java/util/ArrayList" "DEFAULTCAPACITY_EMPTY_ELEMENTDATA" "[Ljava/lang/Object;" (.ref wd) := Sta.start ewd (Or.inr ⟨(ow12 hw), (hsets _ (List.mem_of_getElem? (i := 2) rfl))⟩)
  obtain ⟨kd, V_d⟩ := own_empty hfit ewd (hsets _ (List.mem_of_getElem? (i := 6) rfl)) (hsets _ (List.mem_of_getElem? (i := 8) rfl))
  obtain ⟨n, o, h1, h2, h3, _, L, rfl, ⟨rfl, N⟩, hq⟩ := rm0 l s _ hw tables_1 i0 i1 i2 i3 wd kd s.heap s.heap.size (Nat.le_refl _) S_d V_d p e ha hc hk s m _ below hf ((Spec.applies_iff_loose hf).mp happ).1 ⟨rfl, State.Warmed39.refl s, rfl⟩ trivial
  refine ⟨n, _, h1, h2, h3, hpost _ _ _ _ _ _ ⟨Cond.after_iff.mpr rfl, Cond.after_iff.mpr (eq_i res_at (Term.int_eval (1)) rfl), trivial⟩ ⟨hq.1, hq.2.1, (hq.2.2.sift fun y hy => Or.inr (N y hy)).mono (by decide) (by decide)⟩⟩
theorem main_1_1 : Claimed_1_1 := comes_1 fun _ _ _ _ _ _ h hF => ⟨h.1, hF⟩
theorem main_1_2 : Claimed_1_2 := comes_1 fun _ _ _ _ _ _ h hF => ⟨h.2.1, hF⟩
end Jvm.Pilot.@@N@@
namespace Jvm.Pilot.@@N@@
open Jvm Jvm.ClassFile Sem Op Lib Jvm.Free Jvm.Stand Jvm.Pilot.@@N@@.Jvm.D
/-! MADE BY PROGRAM (witnessworld.py) out of the Statement's table words and the real class files: 25 classes; the members and pool entries that the words name. The judged class is class 1, her method 1. -/
namespace start1
open Jvm.ClassFile
def u (s : String) : CpInfo := .utf8 (stringToUtf16 s)
/-- a pool by its gaps: so many unusable entries, then the entry; so many at the end -/
def gap : Nat → List CpInfo → List CpInfo
  | 0, r => r
  | n + 1, r => .unusable :: gap n r
def poolList (es : List (Nat × CpInfo)) (last : Nat) : List CpInfo := es.foldr (fun e r => gap e.1 (e.2 :: r)) (gap last [])
def pool (es : List (Nat × CpInfo)) (last : Nat) : Array CpInfo := ⟨poolList es last⟩
def fileOf (pool : Array CpInfo) (this : Nat) (attrs : Array Attribute := #[]) (ms : Array MethodInfo := #[]) (fl : Nat := 33) (sup : Nat := 0) (ifs : Array Nat := #[]) (fds : Array FieldInfo := #[]) : ClassFile where
  minorVersion := 0
  majorVersion := 65
  constantPool := pool
  accessFlags := fl
  thisClass := this
  superClass := sup
  interfaces := ifs
  fields := fds
  methods := ms
  attributes := attrs
def plain (name : String) (sup : Option ClassId) : Class where
  name := name
  kind := .ordinary
  loader := none
  accessFlags := 33
  super := sup
  interfaces := #[]
  cf := none
  fields := #[]
  methods := #[]
  instanceTypes := #[]
  staticTypes := #[]
  resolved := #[]
  callSites := []
  init := .initialized
  statics := none
  mirror := none

def pool0 : Array CpInfo := pool [(5, u "<init>"), (0, u "()V"), (1, .class_ 10), (1, u "java/lang/Object"), (85, u "clone"), (0, u "()Ljava/lang/Object;")] 26

def k0c0 : Code := { maxStack := 0, maxLocals := 1, code := object_method_1_code, exceptionTable := #[], attributes := #[] }
def k0m0 : Method := { name := "<init>", desc := "()V", sig := { parameters := [], returnType := none }, accessFlags := 1, code := some k0c0 }
def k0m1 : Method := { name := "clone", desc := "()Ljava/lang/Object;", sig := { parameters := [], returnType := some (.object "java/lang/Object") }, accessFlags := 260, code := none }
/-- java/lang/Object -/
def k0 : Class := { plain "java/lang/Object" none with
  accessFlags := 33
  interfaces := #[]
  cf := some (fileOf pool0 8 #[] #[{ accessFlags := 1, nameIndex := 5, descriptorIndex := 6, attributes := #[] }, { accessFlags := 260, nameIndex := 96, descriptorIndex := 97, attributes := #[] }] 33 0 #[] #[])
  fields := #[]
  methods := #[k0m0, k0m1]
  instanceTypes := #[]
  staticTypes := #[]
  resolved := Array.replicate 124 none
  statics := none }

def pool1 : Array CpInfo := pool [(2, .class_ 4), (1, u "java/lang/Object"), (0, u "<init>"), (0, u "()V"), (0, .class_ 8), (0, u "com/example/libakin/libakin/simhash/Layout"), (0, .methodref 7 10), (0, .nameAndType 5 11), (0, u "(II)V"), (0, .integer 2147483647), (0, .long 4294967295), (1, .methodref 7 16), (0, .nameAndType 17 18), (0, u "metEarlier"), (0, u "(IJ)Z"), (0, .long 18446739675665137663), (1, .long 18446735277620723711), (1, .long 8796093022207), (1, .class_ 26), (0, u "com/example/libakin/libakin/simhash/LayoutMetEarlierPinLaw"), (2, u "law"), (0, u "(IIJJ)Z")] 3

def k1m0 : Method := { name := "<init>", desc := "()V", sig := { parameters := [], returnType := none }, accessFlags := 1, code := none }
def k1c1 : Code := { maxStack := 4, maxLocals := 11, code := code, exceptionTable := #[], attributes := #[] }
def k1m1 : Method := { name := "law", desc := "(IIJJ)Z", sig := { parameters := [.int, .int, .long, .long], returnType := some .boolean }, accessFlags := 9, code := some k1c1 }
/-- com/example/libakin/libakin/simhash/LayoutMetEarlierPinLaw -/
def k1 : Class := { plain "com/example/libakin/libakin/simhash/LayoutMetEarlierPinLaw" (some 0) with
  accessFlags := 49
  interfaces := #[]
  cf := some (fileOf pool1 25 #[] #[{ accessFlags := 1, nameIndex := 5, descriptorIndex := 6, attributes := #[] }, { accessFlags := 9, nameIndex := 29, descriptorIndex := 30, attributes := #[] }] 49 2 #[] #[])
  fields := #[]
  methods := #[k1m0, k1m1]
  instanceTypes := #[]
  staticTypes := #[]
  resolved := Array.replicate 34 none
  statics := none }

def pool2 : Array CpInfo := pool [(1, .methodref 2 3), (0, .class_ 4), (0, .nameAndType 5 6), (0, u "java/lang/Object"), (0, u "<init>"), (0, u "()V"), (2, .class_ 10), (0, u "java/util/ArrayList"), (0, .methodref 9 3), (0, .methodref 13 14), (0, .class_ 15), (0, .nameAndType 16 17), (0, u "com/example/libakin/libakin/simhash/Layout"), (0, u "choose"), (0, u "(III[IILjava/util/List;)V"), (0, .interfaceMethodref 19 20), (0, .class_ 21), (0, .nameAndType 22 23), (0, u "java/util/List"), (0, u "size"), (0, u "()I"), (0, .class_ 25), (0, u "[[I"), (0, .fieldref 13 27), (0, .nameAndType 28 25), (0, u "fromShifts"), (0, .fieldref 13 30), (0, .nameAndType 31 25), (0, u "widths"), (0, .fieldref 13 33), (0, .nameAndType 34 35), (0, u "prefixes"), (0, u "[I"), (0, .interfaceMethodref 19 37), (0, .nameAndType 38 39), (0, u "get"), (0, u "(I)Ljava/lang/Object;"), (0, .class_ 35), (0, .class_ 42), (0, u "[J"), (0, .fieldref 13 44), (0, .nameAndType 45 46), (0, u "earlierPrefixes"), (0, u "[[J"), (0, .methodref 13 48), (0, .nameAndType 49 50), (0, u "unkeyedPrefix"), (0, u "(I)J"), (0, .methodref 13 52), (0, .nameAndType 53 54), (0, u "key"), (0, u "(IJ)J"), (14, u "(II)V"), (16, .long 18446744073709551615), (1, .methodref 40 89), (0, .nameAndType 90 91), (0, u "clone"), (0, u "()Ljava/lang/Object;"), (0, .interfaceMethodref 19 93), (0, .nameAndType 94 95), (0, u "add"), (0, u "(Ljava/lang/Object;)Z"), (0, u "MAX_TABLES"), (0, u "I"), (11, u "metEarlier"), (0, u "(IJ)Z")] 4

def k2c0 : Code := { maxStack := 6, maxLocals := 13, code := prog_28_method_1_code, exceptionTable := #[], attributes := #[] }
def k2m0 : Method := { name := "<init>", desc := "(II)V", sig := { parameters := [.int, .int], returnType := none }, accessFlags := 0, code := some k2c0 }
def k2c1 : Code := { maxStack := 7, maxLocals := 9, code := prog_28_method_6_code, exceptionTable := #[], attributes := #[] }
def k2m1 : Method := { name := "key", desc := "(IJ)J", sig := { parameters := [.int, .long], returnType := some .long }, accessFlags := 0, code := some k2c1 }
def k2c2 : Code := { maxStack := 4, maxLocals := 9, code := prog_28_method_7_code, exceptionTable := #[], attributes := #[] }
def k2m2 : Method := { name := "metEarlier", desc := "(IJ)Z", sig := { parameters := [.int, .long], returnType := some .boolean }, accessFlags := 0, code := some k2c2 }
def k2c3 : Code := { maxStack := 7, maxLocals := 6, code := prog_28_method_8_code, exceptionTable := #[], attributes := #[] }
def k2m3 : Method := { name := "unkeyedPrefix", desc := "(I)J", sig := { parameters := [.int], returnType := some .long }, accessFlags := 2, code := some k2c3 }
def k2c4 : Code := { maxStack := 6, maxLocals := 7, code := prog_28_method_10_code, exceptionTable := #[], attributes := #[] }
def k2m4 : Method := { name := "choose", desc := "(III[IILjava/util/List;)V", sig := { parameters := [.int, .int, .int, (.array .int), .int, (.object "java/util/List")], returnType := none }, accessFlags := 10, code := some k2c4 }
/-- com/example/libakin/libakin/simhash/Layout -/
def k2 : Class := { plain "com/example/libakin/libakin/simhash/Layout" (some 0) with
  accessFlags := 48
  interfaces := #[]
  cf := some (fileOf pool2 13 #[] #[{ accessFlags := 0, nameIndex := 5, descriptorIndex := 69, attributes := #[] }, { accessFlags := 0, nameIndex := 53, descriptorIndex := 54, attributes := #[] }, { accessFlags := 0, nameIndex := 109, descriptorIndex := 110, attributes := #[] }, { accessFlags := 2, nameIndex := 49, descriptorIndex := 50, attributes := #[] }, { accessFlags := 10, nameIndex := 16, descriptorIndex := 17, attributes := #[] }] 48 2 #[] #[{ accessFlags := 24, nameIndex := 96, descriptorIndex := 97, attributes := #[] }, { accessFlags := 18, nameIndex := 28, descriptorIndex := 25, attributes := #[] }, { accessFlags := 18, nameIndex := 31, descriptorIndex := 25, attributes := #[] }, { accessFlags := 18, nameIndex := 34, descriptorIndex := 35, attributes := #[] }, { accessFlags := 18, nameIndex := 45, descriptorIndex := 46, attributes := #[] }])
  fields := #[{ name := "MAX_TABLES", type := .int, accessFlags := 24, slot := 0, constantValue := 0 }, { name := "fromShifts", type := (.array (.array .int)), accessFlags := 18, slot := 0, constantValue := 0 }, { name := "widths", type := (.array (.array .int)), accessFlags := 18, slot := 1, constantValue := 0 }, { name := "prefixes", type := (.array .int), accessFlags := 18, slot := 2, constantValue := 0 }, { name := "earlierPrefixes", type := (.array (.array .long)), accessFlags := 18, slot := 3, constantValue := 0 }]
  methods := #[k2m0, k2m1, k2m2, k2m3, k2m4]
  instanceTypes := #[(.array (.array .int)), (.array (.array .int)), (.array .int), (.array (.array .long))]
  staticTypes := #[.int]
  resolved := Array.replicate 115 none
  statics := none }

def pool3 : Array CpInfo := pool [(8, .class_ 10), (1, u "java/lang/Iterable"), (24, .class_ 36), (0, u "java/lang/Object")] 25

/-- java/lang/Iterable -/
def k3 : Class := { plain "java/lang/Iterable" (some 0) with
  accessFlags := 1537
  interfaces := #[]
  cf := some (fileOf pool3 8 #[] #[] 1537 35 #[] #[])
  fields := #[]
  methods := #[]
  instanceTypes := #[]
  staticTypes := #[]
  resolved := Array.replicate 62 none
  statics := none }

def pool4 : Array CpInfo := pool [(10, .class_ 12), (1, u "java/util/Collection"), (47, .class_ 61), (0, u "java/lang/Object"), (0, .class_ 63), (0, u "java/lang/Iterable")] 51

/-- java/util/Collection -/
def k4 : Class := { plain "java/util/Collection" (some 0) with
  accessFlags := 1537
  interfaces := #[3]
  cf := some (fileOf pool4 10 #[] #[] 1537 60 #[62] #[])
  fields := #[]
  methods := #[]
  instanceTypes := #[]
  staticTypes := #[]
  resolved := Array.replicate 115 none
  statics := none }

def pool5 : Array CpInfo := pool [(1, .methodref 2 3), (0, .class_ 4), (0, .nameAndType 5 6), (0, u "java/lang/Object"), (0, u "<init>"), (0, u "()V"), (1, .class_ 10), (1, u "java/util/AbstractCollection"), (66, .class_ 78), (0, u "java/util/Collection")] 81

def k5c0 : Code := { maxStack := 1, maxLocals := 1, code := jdk_22_method_1_code, exceptionTable := #[], attributes := #[] }
def k5m0 : Method := { name := "<init>", desc := "()V", sig := { parameters := [], returnType := none }, accessFlags := 4, code := some k5c0 }
/-- java/util/AbstractCollection -/
def k5 : Class := { plain "java/util/AbstractCollection" (some 0) with
  accessFlags := 1057
  interfaces := #[4]
  cf := some (fileOf pool5 8 #[] #[{ accessFlags := 4, nameIndex := 5, descriptorIndex := 6, attributes := #[] }] 1057 2 #[77] #[])
  fields := #[]
  methods := #[k5m0]
  instanceTypes := #[]
  staticTypes := #[]
  resolved := Array.replicate 160 none
  statics := none }

def pool6 : Array CpInfo := pool [(8, .class_ 10), (1, u "java/util/SequencedCollection"), (15, .class_ 27), (0, u "java/lang/Object"), (0, .class_ 29), (0, u "java/util/Collection")] 27

/-- java/util/SequencedCollection -/
def k6 : Class := { plain "java/util/SequencedCollection" (some 0) with
  accessFlags := 1537
  interfaces := #[4]
  cf := some (fileOf pool6 8 #[] #[] 1537 26 #[28] #[])
  fields := #[]
  methods := #[]
  instanceTypes := #[]
  staticTypes := #[]
  resolved := Array.replicate 57 none
  statics := none }

def pool7 : Array CpInfo := pool [(8, .class_ 10), (1, u "java/util/List"), (49, u "add"), (3, u "(Ljava/lang/Object;)Z"), (10, u "get"), (0, u "(I)Ljava/lang/Object;"), (2, u "size"), (0, u "()I"), (22, .class_ 104), (0, u "java/lang/Object"), (15, .class_ 121), (0, u "java/util/SequencedCollection")] 129

def k7m0 : Method := { name := "size", desc := "()I", sig := { parameters := [], returnType := some .int }, accessFlags := 1025, code := none }
def k7m1 : Method := { name := "add", desc := "(Ljava/lang/Object;)Z", sig := { parameters := [(.object "java/lang/Object")], returnType := some .boolean }, accessFlags := 1025, code := none }
def k7m2 : Method := { name := "get", desc := "(I)Ljava/lang/Object;", sig := { parameters := [.int], returnType := some (.object "java/lang/Object") }, accessFlags := 1025, code := none }
/-- java/util/List -/
def k7 : Class := { plain "java/util/List" (some 0) with
  accessFlags := 1537
  interfaces := #[6]
  cf := some (fileOf pool7 8 #[] #[{ accessFlags := 1025, nameIndex := 79, descriptorIndex := 80, attributes := #[] }, { accessFlags := 1025, nameIndex := 60, descriptorIndex := 64, attributes := #[] }, { accessFlags := 1025, nameIndex := 75, descriptorIndex := 76, attributes := #[] }] 1537 103 #[120] #[])
  fields := #[]
  methods := #[k7m0, k7m1, k7m2]
  instanceTypes := #[]
  staticTypes := #[]
  resolved := Array.replicate 251 none
  statics := none }

def pool8 : Array CpInfo := pool [(1, .methodref 2 3), (0, .class_ 4), (0, .nameAndType 5 6), (0, u "java/util/AbstractCollection"), (0, u "<init>"), (0, u "()V"), (0, .fieldref 8 9), (0, .class_ 10), (0, .nameAndType 11 12), (0, u "java/util/AbstractList"), (0, u "modCount"), (0, u "I"), (64, .class_ 78), (0, u "java/util/AbstractList$Itr"), (3, .class_ 83), (0, u "java/util/AbstractList$ListItr"), (9, .class_ 94), (0, u "java/util/AbstractList$RandomAccessSubList"), (3, .class_ 99), (0, u "java/util/AbstractList$SubList"), (33, .class_ 134), (0, u "java/util/List"), (73, .class_ 209), (0, u "java/util/AbstractList$SubList$1"), (0, .class_ 211), (0, u "java/util/AbstractList$RandomAccessSpliterator")] 6

def k8c0 : Code := { maxStack := 2, maxLocals := 1, code := jdk_39_method_1_code, exceptionTable := #[], attributes := #[] }
def k8m0 : Method := { name := "<init>", desc := "()V", sig := { parameters := [], returnType := none }, accessFlags := 4, code := some k8c0 }
/-- java/util/AbstractList -/
def k8 : Class := { plain "java/util/AbstractList" (some 5) with
  accessFlags := 1057
  interfaces := #[7]
  cf := some (fileOf pool8 8 #[.nestMembers #[93, 98, 208, 210, 82, 77]] #[{ accessFlags := 4, nameIndex := 5, descriptorIndex := 6, attributes := #[] }] 1057 2 #[133] #[{ accessFlags := 132, nameIndex := 11, descriptorIndex := 12, attributes := #[] }])
  fields := #[{ name := "modCount", type := .int, accessFlags := 132, slot := 0, constantValue := 0 }]
  methods := #[k8m0]
  instanceTypes := #[.int]
  staticTypes := #[]
  resolved := Array.replicate 218 none
  statics := none }

def pool9 : Array CpInfo := pool [(1, .class_ 2), (0, u "java/util/RandomAccess"), (0, .class_ 4), (0, u "java/lang/Object")] 2

/-- java/util/RandomAccess -/
def k9 : Class := { plain "java/util/RandomAccess" (some 0) with
  accessFlags := 1537
  interfaces := #[]
  cf := some (fileOf pool9 1 #[] #[] 1537 3 #[] #[])
  fields := #[]
  methods := #[]
  instanceTypes := #[]
  staticTypes := #[]
  resolved := Array.replicate 7 none
  statics := none }

def pool10 : Array CpInfo := pool [(1, .class_ 2), (0, u "java/lang/Cloneable"), (0, .class_ 4), (0, u "java/lang/Object")] 2

/-- java/lang/Cloneable -/
def k10 : Class := { plain "java/lang/Cloneable" (some 0) with
  accessFlags := 1537
  interfaces := #[]
  cf := some (fileOf pool10 1 #[] #[] 1537 3 #[] #[])
  fields := #[]
  methods := #[]
  instanceTypes := #[]
  staticTypes := #[]
  resolved := Array.replicate 7 none
  statics := none }

def pool11 : Array CpInfo := pool [(1, .class_ 2), (0, u "java/io/Serializable"), (0, .class_ 4), (0, u "java/lang/Object")] 2

/-- java/io/Serializable -/
def k11 : Class := { plain "java/io/Serializable" (some 0) with
  accessFlags := 1537
  interfaces := #[]
  cf := some (fileOf pool11 1 #[] #[] 1537 3 #[] #[])
  fields := #[]
  methods := #[]
  instanceTypes := #[]
  staticTypes := #[]
  resolved := Array.replicate 7 none
  statics := none }

def pool12 : Array CpInfo := pool [(1, .methodref 2 3), (0, .class_ 4), (0, .nameAndType 5 6), (0, u "java/util/AbstractList"), (0, u "<init>"), (0, u "()V"), (0, .class_ 8), (0, u "java/lang/Object"), (0, .fieldref 10 11), (0, .class_ 12), (0, .nameAndType 13 14), (0, u "java/util/ArrayList"), (0, u "elementData"), (0, u "[Ljava/lang/Object;"), (2, u "EMPTY_ELEMENTDATA"), (21, .fieldref 10 40), (0, .nameAndType 41 14), (0, u "DEFAULTCAPACITY_EMPTY_ELEMENTDATA"), (5, u "()[Ljava/lang/Object;"), (0, .fieldref 10 49), (0, .nameAndType 50 51), (0, u "size"), (0, u "I"), (11, .fieldref 10 64), (0, .nameAndType 65 51), (0, u "modCount"), (3, .methodref 10 70), (0, .nameAndType 71 72), (0, u "grow"), (0, u "(I)[Ljava/lang/Object;"), (6, .methodref 80 81), (0, .class_ 82), (0, .nameAndType 83 84), (0, u "java/lang/Math"), (0, u "max"), (0, u "(II)I"), (11, u "(Ljava/lang/Object;)Z"), (21, .methodref 119 120), (0, .class_ 121), (0, .nameAndType 122 84), (0, u "java/util/Objects"), (0, u "checkIndex"), (0, .methodref 10 124), (0, .nameAndType 13 125), (0, u "(I)Ljava/lang/Object;"), (3, .methodref 10 130), (0, .nameAndType 71 47), (0, .methodref 10 132), (0, .nameAndType 133 134), (0, u "add"), (0, u "(Ljava/lang/Object;[Ljava/lang/Object;I)V"), (13, .class_ 149), (0, u "java/util/List"), (36, u "()I"), (75, .class_ 263), (0, u "java/util/ArrayList$ListItr"), (3, .class_ 268), (0, u "java/util/ArrayList$Itr"), (7, .class_ 277), (0, u "java/util/ArrayList$SubList"), (12, .class_ 291), (0, u "java/util/ArrayList$ArrayListSpliterator"), (37, .class_ 330), (0, u "java/util/RandomAccess"), (0, .class_ 332), (0, u "java/lang/Cloneable"), (0, .class_ 334), (0, u "java/io/Serializable"), (0, u "serialVersionUID"), (0, u "J"), (3, u "DEFAULT_CAPACITY"), (40, u "get"), (118, .class_ 501), (0, u "java/util/ArrayList$SubList$2"), (0, .class_ 503), (0, u "java/util/ArrayList$SubList$1")] 5

def k12c0 : Code := { maxStack := 2, maxLocals := 1, code := jdk_38_method_2_code, exceptionTable := #[], attributes := #[] }
def k12m0 : Method := { name := "<init>", desc := "()V", sig := { parameters := [], returnType := none }, accessFlags := 1, code := some k12c0 }
def k12c1 : Code := { maxStack := 4, maxLocals := 4, code := jdk_38_method_6_code, exceptionTable := #[], attributes := #[] }
def k12m1 : Method := { name := "grow", desc := "(I)[Ljava/lang/Object;", sig := { parameters := [.int], returnType := some (.array (.object "java/lang/Object")) }, accessFlags := 2, code := some k12c1 }
def k12c2 : Code := { maxStack := 3, maxLocals := 1, code := jdk_38_method_7_code, exceptionTable := #[], attributes := #[] }
def k12m2 : Method := { name := "grow", desc := "()[Ljava/lang/Object;", sig := { parameters := [], returnType := some (.array (.object "java/lang/Object")) }, accessFlags := 2, code := some k12c2 }
def k12c3 : Code := { maxStack := 1, maxLocals := 1, code := jdk_38_method_8_code, exceptionTable := #[], attributes := #[] }
def k12m3 : Method := { name := "size", desc := "()I", sig := { parameters := [], returnType := some .int }, accessFlags := 1, code := some k12c3 }
def k12c4 : Code := { maxStack := 2, maxLocals := 2, code := jdk_38_method_18_code, exceptionTable := #[], attributes := #[] }
def k12m4 : Method := { name := "elementData", desc := "(I)Ljava/lang/Object;", sig := { parameters := [.int], returnType := some (.object "java/lang/Object") }, accessFlags := 0, code := some k12c4 }
def k12c5 : Code := { maxStack := 2, maxLocals := 2, code := jdk_38_method_20_code, exceptionTable := #[], attributes := #[] }
def k12m5 : Method := { name := "get", desc := "(I)Ljava/lang/Object;", sig := { parameters := [.int], returnType := some (.object "java/lang/Object") }, accessFlags := 1, code := some k12c5 }
def k12c6 : Code := { maxStack := 3, maxLocals := 4, code := jdk_38_method_24_code, exceptionTable := #[], attributes := #[] }
def k12m6 : Method := { name := "add", desc := "(Ljava/lang/Object;[Ljava/lang/Object;I)V", sig := { parameters := [(.object "java/lang/Object"), (.array (.object "java/lang/Object")), .int], returnType := none }, accessFlags := 2, code := some k12c6 }
def k12c7 : Code := { maxStack := 4, maxLocals := 2, code := jdk_38_method_25_code, exceptionTable := #[], attributes := #[] }
def k12m7 : Method := { name := "add", desc := "(Ljava/lang/Object;)Z", sig := { parameters := [(.object "java/lang/Object")], returnType := some .boolean }, accessFlags := 1, code := some k12c7 }
/-- java/util/ArrayList -/
def k12 : Class := { plain "java/util/ArrayList" (some 8) with
  accessFlags := 33
  interfaces := #[7, 9, 10, 11]
  cf := some (fileOf pool12 10 #[.nestMembers #[290, 276, 500, 502, 262, 267]] #[{ accessFlags := 1, nameIndex := 5, descriptorIndex := 6, attributes := #[] }, { accessFlags := 2, nameIndex := 71, descriptorIndex := 72, attributes := #[] }, { accessFlags := 2, nameIndex := 71, descriptorIndex := 47, attributes := #[] }, { accessFlags := 1, nameIndex := 50, descriptorIndex := 186, attributes := #[] }, { accessFlags := 0, nameIndex := 13, descriptorIndex := 125, attributes := #[] }, { accessFlags := 1, nameIndex := 381, descriptorIndex := 125, attributes := #[] }, { accessFlags := 2, nameIndex := 133, descriptorIndex := 134, attributes := #[] }, { accessFlags := 1, nameIndex := 133, descriptorIndex := 96, attributes := #[] }] 33 2 #[148, 329, 331, 333] #[{ accessFlags := 26, nameIndex := 335, descriptorIndex := 336, attributes := #[] }, { accessFlags := 26, nameIndex := 340, descriptorIndex := 51, attributes := #[] }, { accessFlags := 26, nameIndex := 17, descriptorIndex := 14, attributes := #[] }, { accessFlags := 26, nameIndex := 41, descriptorIndex := 14, attributes := #[] }, { accessFlags := 128, nameIndex := 13, descriptorIndex := 14, attributes := #[] }, { accessFlags := 2, nameIndex := 50, descriptorIndex := 51, attributes := #[] }])
  fields := #[{ name := "serialVersionUID", type := .long, accessFlags := 26, slot := 0, constantValue := 0 }, { name := "DEFAULT_CAPACITY", type := .int, accessFlags := 26, slot := 1, constantValue := 0 }, { name := "EMPTY_ELEMENTDATA", type := (.array (.object "java/lang/Object")), accessFlags := 26, slot := 2, constantValue := 0 }, { name := "DEFAULTCAPACITY_EMPTY_ELEMENTDATA", type := (.array (.object "java/lang/Object")), accessFlags := 26, slot := 3, constantValue := 0 }, { name := "elementData", type := (.array (.object "java/lang/Object")), accessFlags := 128, slot := 1, constantValue := 0 }, { name := "size", type := .int, accessFlags := 2, slot := 2, constantValue := 0 }]
  methods := #[k12m0, k12m1, k12m2, k12m3, k12m4, k12m5, k12m6, k12m7]
  instanceTypes := #[.int, (.array (.object "java/lang/Object")), .int]
  staticTypes := #[.long, .int, (.array (.object "java/lang/Object")), (.array (.object "java/lang/Object"))]
  resolved := Array.replicate 509 none
  statics := some 0 }

def pool13 : Array CpInfo := pool [(1, .class_ 2), (0, u "java/lang/Math"), (1, .class_ 6), (1, u "java/lang/Object"), (0, u "<init>"), (0, u "()V"), (89, .class_ 100), (1, u "java/lang/Math$RandomNumberGeneratorHolder"), (71, u "negativeZeroFloatBits"), (0, u "J"), (2, u "negativeZeroDoubleBits"), (21, u "max"), (46, u "$assertionsDisabled"), (0, u "Z"), (88, u "(II)I"), (2, u "twoToTheDoubleScaleDown"), (0, u "D"), (4, u "twoToTheDoubleScaleUp"), (9, u "E"), (3, u "PI"), (2, u "TAU"), (2, u "DEGREES_TO_RADIANS"), (0, u "RADIANS_TO_DEGREES")] 94

def k13m0 : Method := { name := "<init>", desc := "()V", sig := { parameters := [], returnType := none }, accessFlags := 2, code := none }
def k13c1 : Code := { maxStack := 2, maxLocals := 2, code := jdk_29_method_65_code, exceptionTable := #[], attributes := #[] }
def k13m1 : Method := { name := "max", desc := "(II)I", sig := { parameters := [.int, .int], returnType := some .int }, accessFlags := 9, code := some k13c1 }
/-- java/lang/Math -/
def k13 : Class := { plain "java/lang/Math" (some 0) with
  accessFlags := 49
  interfaces := #[]
  cf := some (fileOf pool13 1 #[.nestMembers #[98]] #[{ accessFlags := 2, nameIndex := 7, descriptorIndex := 8, attributes := #[] }, { accessFlags := 9, nameIndex := 198, descriptorIndex := 335, attributes := #[] }] 49 4 #[] #[{ accessFlags := 25, nameIndex := 354, descriptorIndex := 339, attributes := #[] }, { accessFlags := 25, nameIndex := 358, descriptorIndex := 339, attributes := #[] }, { accessFlags := 25, nameIndex := 361, descriptorIndex := 339, attributes := #[] }, { accessFlags := 26, nameIndex := 364, descriptorIndex := 339, attributes := #[] }, { accessFlags := 26, nameIndex := 365, descriptorIndex := 339, attributes := #[] }, { accessFlags := 26, nameIndex := 172, descriptorIndex := 173, attributes := #[] }, { accessFlags := 26, nameIndex := 176, descriptorIndex := 173, attributes := #[] }, { accessFlags := 8, nameIndex := 344, descriptorIndex := 339, attributes := #[] }, { accessFlags := 8, nameIndex := 338, descriptorIndex := 339, attributes := #[] }, { accessFlags := 4120, nameIndex := 245, descriptorIndex := 246, attributes := #[] }])
  fields := #[{ name := "E", type := .double, accessFlags := 25, slot := 0, constantValue := 0 }, { name := "PI", type := .double, accessFlags := 25, slot := 1, constantValue := 0 }, { name := "TAU", type := .double, accessFlags := 25, slot := 2, constantValue := 0 }, { name := "DEGREES_TO_RADIANS", type := .double, accessFlags := 26, slot := 3, constantValue := 0 }, { name := "RADIANS_TO_DEGREES", type := .double, accessFlags := 26, slot := 4, constantValue := 0 }, { name := "negativeZeroFloatBits", type := .long, accessFlags := 26, slot := 5, constantValue := 0 }, { name := "negativeZeroDoubleBits", type := .long, accessFlags := 26, slot := 6, constantValue := 0 }, { name := "twoToTheDoubleScaleUp", type := .double, accessFlags := 8, slot := 7, constantValue := 0 }, { name := "twoToTheDoubleScaleDown", type := .double, accessFlags := 8, slot := 8, constantValue := 0 }, { name := "$assertionsDisabled", type := .boolean, accessFlags := 4120, slot := 9, constantValue := 0 }]
  methods := #[k13m0, k13m1]
  instanceTypes := #[]
  staticTypes := #[.double, .double, .double, .double, .double, .long, .long, .double, .double, .boolean]
  resolved := Array.replicate 460 none
  statics := none }

def pool14 : Array CpInfo := pool [(2, .class_ 4), (1, u "java/lang/Object"), (0, u "<init>"), (0, u "()V"), (35, .class_ 44), (1, u "java/util/Objects"), (60, .methodref 106 107), (0, .class_ 108), (0, .nameAndType 109 110), (0, u "jdk/internal/util/Preconditions"), (0, u "checkIndex"), (0, u "(IILjava/util/function/BiFunction;)I"), (60, u "(II)I")] 12

def k14m0 : Method := { name := "<init>", desc := "()V", sig := { parameters := [], returnType := none }, accessFlags := 2, code := none }
def k14c1 : Code := { maxStack := 3, maxLocals := 2, code := jdk_31_method_17_code, exceptionTable := #[], attributes := #[] }
def k14m1 : Method := { name := "checkIndex", desc := "(II)I", sig := { parameters := [.int, .int], returnType := some .int }, accessFlags := 9, code := some k14c1 }
/-- java/util/Objects -/
def k14 : Class := { plain "java/util/Objects" (some 0) with
  accessFlags := 49
  interfaces := #[]
  cf := some (fileOf pool14 42 #[] #[{ accessFlags := 2, nameIndex := 5, descriptorIndex := 6, attributes := #[] }, { accessFlags := 9, nameIndex := 109, descriptorIndex := 171, attributes := #[] }] 49 2 #[] #[])
  fields := #[]
  methods := #[k14m0, k14m1]
  instanceTypes := #[]
  staticTypes := #[]
  resolved := Array.replicate 184 none
  statics := none }

def pool15 : Array CpInfo := pool [(2, .class_ 4), (1, u "java/lang/Object"), (0, u "<init>"), (0, u "()V"), (17, .class_ 26), (1, u "jdk/internal/util/Preconditions"), (6, u "checkIndex"), (21, .class_ 56), (0, u "jdk/internal/util/Preconditions$4"), (57, .class_ 115), (0, u "jdk/internal/util/Preconditions$1"), (7, u "SIOOBE_FORMATTER"), (0, u "Ljava/util/function/BiFunction;"), (0, .class_ 126), (0, u "jdk/internal/util/Preconditions$2"), (3, u "AIOOBE_FORMATTER"), (0, .class_ 132), (0, u "jdk/internal/util/Preconditions$3"), (3, u "IOOBE_FORMATTER"), (41, u "(IILjava/util/function/BiFunction;)I")] 15

def k15m0 : Method := { name := "<init>", desc := "()V", sig := { parameters := [], returnType := none }, accessFlags := 1, code := none }
def k15c1 : Code := { maxStack := 3, maxLocals := 3, code := jdk_41_method_11_code, exceptionTable := #[], attributes := #[] }
def k15m1 : Method := { name := "checkIndex", desc := "(IILjava/util/function/BiFunction;)I", sig := { parameters := [.int, .int, (.object "java/util/function/BiFunction")], returnType := some .int }, accessFlags := 9, code := some k15c1 }
/-- jdk/internal/util/Preconditions -/
def k15 : Class := { plain "jdk/internal/util/Preconditions" (some 0) with
  accessFlags := 33
  interfaces := #[]
  cf := some (fileOf pool15 24 #[.nestMembers #[55, 131, 125, 114]] #[{ accessFlags := 1, nameIndex := 5, descriptorIndex := 6, attributes := #[] }, { accessFlags := 9, nameIndex := 33, descriptorIndex := 178, attributes := #[] }] 33 2 #[] #[{ accessFlags := 25, nameIndex := 123, descriptorIndex := 124, attributes := #[] }, { accessFlags := 25, nameIndex := 130, descriptorIndex := 124, attributes := #[] }, { accessFlags := 25, nameIndex := 136, descriptorIndex := 124, attributes := #[] }])
  fields := #[{ name := "SIOOBE_FORMATTER", type := (.object "java/util/function/BiFunction"), accessFlags := 25, slot := 0, constantValue := 0 }, { name := "AIOOBE_FORMATTER", type := (.object "java/util/function/BiFunction"), accessFlags := 25, slot := 1, constantValue := 0 }, { name := "IOOBE_FORMATTER", type := (.object "java/util/function/BiFunction"), accessFlags := 25, slot := 2, constantValue := 0 }]
  methods := #[k15m0, k15m1]
  instanceTypes := #[]
  staticTypes := #[(.object "java/util/function/BiFunction"), (.object "java/util/function/BiFunction"), (.object "java/util/function/BiFunction")]
  resolved := Array.replicate 194 none
  statics := none }

/-- the primitive boolean -/
def k16 : Class := { plain "boolean" none with kind := .primitive 'Z', accessFlags := 0x411 }
/-- [Z -/
def k17 : Class := { plain "[Z" (some 0) with kind := .array 16 .boolean, interfaces := #[10, 11], accessFlags := 1041 }

/-- the primitive byte -/
def k18 : Class := { plain "byte" none with kind := .primitive 'B', accessFlags := 0x411 }
/-- [B -/
def k19 : Class := { plain "[B" (some 0) with kind := .array 18 .byte, interfaces := #[10, 11], accessFlags := 1041 }

/-- the primitive int -/
def k20 : Class := { plain "int" none with kind := .primitive 'I', accessFlags := 0x411 }
/-- [I -/
def k21 : Class := { plain "[I" (some 0) with kind := .array 20 .int, interfaces := #[10, 11], accessFlags := 1041 }

/-- the primitive long -/
def k22 : Class := { plain "long" none with kind := .primitive 'J', accessFlags := 0x411 }
/-- [J -/
def k23 : Class := { plain "[J" (some 0) with kind := .array 22 .long, interfaces := #[10, 11], accessFlags := 1041 }

/-- [Ljava/lang/Object; -/
def k24 : Class := { plain "[Ljava/lang/Object;" (some 0) with kind := .array 0 (.object "java/lang/Object"), interfaces := #[10, 11], accessFlags := 1041 }

def k25 : Class := { plain "[[I" (some 0) with kind := .array 21 (.array .int), interfaces := #[10, 11], accessFlags := 1041 }
def k26 : Class := { plain "[[J" (some 0) with kind := .array 23 (.array .long), interfaces := #[10, 11], accessFlags := 1041 }
def heap : Heap := #[{ cls := 12, slots := #[.long 0, .int 0, .ref 1, .ref 2], vm := .statics 12 },
  { cls := 24, slots := #[], vm := .none },
  { cls := 24, slots := #[], vm := .none }]
def classes : Array Class := #[k0, k1, k2, k3, k4, k5, k6, k7, k8, k9, k10, k11, k12, k13, k14, k15, k16, k17, k18, k19, k20, k21, k22, k23, k24, k25, k26]
def interned : List (Array UInt16 × Addr) := []
def slotsUsed : Nat := 4
def theMethod : MethodId := ⟨1, 1⟩
def args0 : Array Value := #[.int 1, .int 1, .long 5, .long 6]
def aboutOver (below : List Frame) : State where
  vm := { classes := classes, interned := interned.toArray }
  heap := heap
  slotsUsed := slotsUsed
  threads := #[{ frames := .invoking theMethod args0 :: below }]
def below0 : List Frame := [.native { method := ⟨0, 0⟩, args := #[] }]
def about1 : State := aboutOver below0
def p0 : Program := .bare "" "" ""
def e0 : Env := launch0.env 0 0 0
theorem w_frames : about1.frames = Frame.invoking theMethod args0 :: below0 := rfl
set_option maxRecDepth 65536 in
theorem w_args : argsFit about1.vm theMethod args0 = true := by decide +kernel
set_option maxRecDepth 65536 in
theorem w_heap : heapFits about1 = true := by decide +kernel
set_option maxRecDepth 65536 in
theorem w_runnable : about1.curStatus? = some .runnable := by decide +kernel
set_option maxRecDepth 65536 in
theorem w_alone : about1.alone = true := by decide +kernel
set_option maxRecDepth 65536 in
theorem w_named : about1.methodNamed? x = some theMethod := by decide +kernel
set_option maxRecDepth 65536 in
theorem w_hears : about1.hears theMethod below0 = true := by decide +kernel
set_option maxRecDepth 65536 in
theorem w_ripe : about1.ripe theMethod args0 below0 = true := by decide +kernel
theorem w_running : about1.status = .running := rfl
set_option maxRecDepth 65536 in
theorem w_room : about1.hasRoom e0.platform room_1 = true :=
  launch0.hasRoom_least _ room_1 (by decide +kernel) (by decide +kernel) (by decide +kernel) (by decide +kernel) (by decide +kernel) (by decide +kernel)
theorem allAtoms_all (ts : List Jvm.Cond) (a : Array Jvm.Value) (st : Jvm.State) : (allAtoms ts).before a st = ts.all (fun c => c.before a st) := by
  induction ts with
  | nil => rfl
  | cons c t ih =>
    show (Jvm.Cond.and c (allAtoms t)).before a st = _
    rw [Jvm.Cond.before_and, ih, List.all_cons]
def words1 : List Jvm.Cond := Jvm.Cond.code x code maxLocals ret :: tables_1
/-- a 'code' word, met by the world's own term for the bytes: nothing is compared byte by byte -/
theorem code_word {y : MethodName} {bytes : ByteArray} {mx : Nat} {rt : Option FieldType} {a : Array Value} {s : State} {m : MethodId} {meth : Method} {c : Code} (h1 : s.methodNamed? y = some m) (h2 : s.vm.method? m = some meth) (h3 : meth.code = some c) (h4 : c.code = bytes)
    (h5 : (c.maxLocals == mx && c.exceptionTable.isEmpty && decide (c.maxStack ≤ mostOperands) && decide (meth.sig.returnType = rt) && !meth.locks && decide (parseMethodDescriptor y.desc = some meth.sig)) = true) : (Jvm.Cond.code y bytes mx rt).before a s = true := by
  simp only [Bool.and_eq_true, beq_iff_eq, Bool.not_eq_true', decide_eq_true_eq] at h5
  obtain ⟨⟨⟨⟨⟨g1, g2⟩, g3⟩, g4⟩, g5⟩, g6⟩ := h5
  simp [Cond.before, Cond.holds, Cond.value, h1, h2, h3, h4, g1, g2, g3, g4, g5, g6]
def isCode : Jvm.Cond → Bool
  | .code _ _ _ _ => true
  | _ => false
theorem all_split {L : List Jvm.Cond} {P : Jvm.Cond → Bool} (h1 : L.all (fun c => isCode c || P c) = true) (h2 : ∀ c ∈ L.filter isCode, P c = true) : L.all P = true := by
  refine List.all_eq_true.mpr fun c hc => ?_
  have h := List.all_eq_true.mp h1 c hc
  rcases Bool.eq_false_or_eq_true (isCode c) with hi | hi
  · exact h2 c (List.mem_filter.mpr ⟨hc, hi⟩)
  · simpa [hi] using h
set_option maxRecDepth 65536 in
theorem w_c0 : (Jvm.Cond.code x code maxLocals ret).before args0 about1 = true := code_word (m := ⟨1, 1⟩) (meth := k1m1) (c := k1c1) (by decide +kernel) rfl rfl rfl (by decide +kernel)
set_option maxRecDepth 65536 in
theorem w_c1 : (Jvm.Cond.code ({ cls := "com/example/libakin/libakin/simhash/Layout", name := "<init>", desc := "(II)V" } : Jvm.MethodName) prog_28_method_1_code (13 : Nat) (Option.none : Option Jvm.ClassFile.FieldType)).before args0 about1 = true := code_word (m := ⟨2, 0⟩) (meth := k2m0) (c := k2c0) (by decide +kernel) rfl rfl rfl (by decide +kernel)
set_option maxRecDepth 65536 in
theorem w_c2 : (Jvm.Cond.code ({ cls := "java/lang/Object", name := "<init>", desc := "()V" } : Jvm.MethodName) object_method_1_code (1 : Nat) (Option.none : Option Jvm.ClassFile.FieldType)).before args0 about1 = true := code_word (m := ⟨0, 0⟩) (meth := k0m0) (c := k0c0) (by decide +kernel) rfl rfl rfl (by decide +kernel)
set_option maxRecDepth 65536 in
theorem w_c3 : (Jvm.Cond.code ({ cls := "java/util/ArrayList", name := "<init>", desc := "()V" } : Jvm.MethodName) jdk_38_method_2_code (1 : Nat) (Option.none : Option Jvm.ClassFile.FieldType)).before args0 about1 = true := code_word (m := ⟨12, 0⟩) (meth := k12m0) (c := k12c0) (by decide +kernel) rfl rfl rfl (by decide +kernel)
set_option maxRecDepth 65536 in
theorem w_c4 : (Jvm.Cond.code ({ cls := "java/util/AbstractList", name := "<init>", desc := "()V" } : Jvm.MethodName) jdk_39_method_1_code (1 : Nat) (Option.none : Option Jvm.ClassFile.FieldType)).before args0 about1 = true := code_word (m := ⟨8, 0⟩) (meth := k8m0) (c := k8c0) (by decide +kernel) rfl rfl rfl (by decide +kernel)
set_option maxRecDepth 65536 in
theorem w_c5 : (Jvm.Cond.code ({ cls := "java/util/AbstractCollection", name := "<init>", desc := "()V" } : Jvm.MethodName) jdk_22_method_1_code (1 : Nat) (Option.none : Option Jvm.ClassFile.FieldType)).before args0 about1 = true := code_word (m := ⟨5, 0⟩) (meth := k5m0) (c := k5c0) (by decide +kernel) rfl rfl rfl (by decide +kernel)
set_option maxRecDepth 65536 in
theorem w_c6 : (Jvm.Cond.code ({ cls := "com/example/libakin/libakin/simhash/Layout", name := "choose", desc := "(III[IILjava/util/List;)V" } : Jvm.MethodName) prog_28_method_10_code (7 : Nat) (Option.none : Option Jvm.ClassFile.FieldType)).before args0 about1 = true := code_word (m := ⟨2, 4⟩) (meth := k2m4) (c := k2c4) (by decide +kernel) rfl rfl rfl (by decide +kernel)
set_option maxRecDepth 65536 in
theorem w_c7 : (Jvm.Cond.code ({ cls := "java/util/ArrayList", name := "add", desc := "(Ljava/lang/Object;)Z" } : Jvm.MethodName) jdk_38_method_25_code (2 : Nat) (Option.some Jvm.ClassFile.FieldType.boolean)).before args0 about1 = true := code_word (m := ⟨12, 7⟩) (meth := k12m7) (c := k12c7) (by decide +kernel) rfl rfl rfl (by decide +kernel)
set_option maxRecDepth 65536 in
theorem w_c8 : (Jvm.Cond.code ({ cls := "java/util/ArrayList", name := "add", desc := "(Ljava/lang/Object;[Ljava/lang/Object;I)V" } : Jvm.MethodName) jdk_38_method_24_code (4 : Nat) (Option.none : Option Jvm.ClassFile.FieldType)).before args0 about1 = true := code_word (m := ⟨12, 6⟩) (meth := k12m6) (c := k12c6) (by decide +kernel) rfl rfl rfl (by decide +kernel)
set_option maxRecDepth 65536 in
theorem w_c9 : (Jvm.Cond.code ({ cls := "java/util/ArrayList", name := "grow", desc := "()[Ljava/lang/Object;" } : Jvm.MethodName) jdk_38_method_7_code (1 : Nat) (Option.some (Jvm.ClassFile.FieldType.array (Jvm.ClassFile.FieldType.object "java/lang/Object")))).before args0 about1 = true := code_word (m := ⟨12, 2⟩) (meth := k12m2) (c := k12c2) (by decide +kernel) rfl rfl rfl (by decide +kernel)
set_option maxRecDepth 65536 in
theorem w_c10 : (Jvm.Cond.code ({ cls := "java/util/ArrayList", name := "grow", desc := "(I)[Ljava/lang/Object;" } : Jvm.MethodName) jdk_38_method_6_code (4 : Nat) (Option.some (Jvm.ClassFile.FieldType.array (Jvm.ClassFile.FieldType.object "java/lang/Object")))).before args0 about1 = true := code_word (m := ⟨12, 1⟩) (meth := k12m1) (c := k12c1) (by decide +kernel) rfl rfl rfl (by decide +kernel)
set_option maxRecDepth 65536 in
theorem w_c11 : (Jvm.Cond.code ({ cls := "java/lang/Math", name := "max", desc := "(II)I" } : Jvm.MethodName) jdk_29_method_65_code (2 : Nat) (Option.some Jvm.ClassFile.FieldType.int)).before args0 about1 = true := code_word (m := ⟨13, 1⟩) (meth := k13m1) (c := k13c1) (by decide +kernel) rfl rfl rfl (by decide +kernel)
set_option maxRecDepth 65536 in
theorem w_c12 : (Jvm.Cond.code ({ cls := "java/util/ArrayList", name := "size", desc := "()I" } : Jvm.MethodName) jdk_38_method_8_code (1 : Nat) (Option.some Jvm.ClassFile.FieldType.int)).before args0 about1 = true := code_word (m := ⟨12, 3⟩) (meth := k12m3) (c := k12c3) (by decide +kernel) rfl rfl rfl (by decide +kernel)
set_option maxRecDepth 65536 in
theorem w_c13 : (Jvm.Cond.code ({ cls := "java/util/ArrayList", name := "get", desc := "(I)Ljava/lang/Object;" } : Jvm.MethodName) jdk_38_method_20_code (2 : Nat) (Option.some (Jvm.ClassFile.FieldType.object "java/lang/Object"))).before args0 about1 = true := code_word (m := ⟨12, 5⟩) (meth := k12m5) (c := k12c5) (by decide +kernel) rfl rfl rfl (by decide +kernel)
set_option maxRecDepth 65536 in
theorem w_c14 : (Jvm.Cond.code ({ cls := "java/util/Objects", name := "checkIndex", desc := "(II)I" } : Jvm.MethodName) jdk_31_method_17_code (2 : Nat) (Option.some Jvm.ClassFile.FieldType.int)).before args0 about1 = true := code_word (m := ⟨14, 1⟩) (meth := k14m1) (c := k14c1) (by decide +kernel) rfl rfl rfl (by decide +kernel)
set_option maxRecDepth 65536 in
theorem w_c15 : (Jvm.Cond.code ({ cls := "jdk/internal/util/Preconditions", name := "checkIndex", desc := "(IILjava/util/function/BiFunction;)I" } : Jvm.MethodName) jdk_41_method_11_code (3 : Nat) (Option.some Jvm.ClassFile.FieldType.int)).before args0 about1 = true := code_word (m := ⟨15, 1⟩) (meth := k15m1) (c := k15c1) (by decide +kernel) rfl rfl rfl (by decide +kernel)
set_option maxRecDepth 65536 in
theorem w_c16 : (Jvm.Cond.code ({ cls := "java/util/ArrayList", name := "elementData", desc := "(I)Ljava/lang/Object;" } : Jvm.MethodName) jdk_38_method_18_code (2 : Nat) (Option.some (Jvm.ClassFile.FieldType.object "java/lang/Object"))).before args0 about1 = true := code_word (m := ⟨12, 4⟩) (meth := k12m4) (c := k12c4) (by decide +kernel) rfl rfl rfl (by decide +kernel)
set_option maxRecDepth 65536 in
theorem w_c17 : (Jvm.Cond.code ({ cls := "com/example/libakin/libakin/simhash/Layout", name := "unkeyedPrefix", desc := "(I)J" } : Jvm.MethodName) prog_28_method_8_code (6 : Nat) (Option.some Jvm.ClassFile.FieldType.long)).before args0 about1 = true := code_word (m := ⟨2, 3⟩) (meth := k2m3) (c := k2c3) (by decide +kernel) rfl rfl rfl (by decide +kernel)
set_option maxRecDepth 65536 in
theorem w_c18 : (Jvm.Cond.code ({ cls := "com/example/libakin/libakin/simhash/Layout", name := "key", desc := "(IJ)J" } : Jvm.MethodName) prog_28_method_6_code (9 : Nat) (Option.some Jvm.ClassFile.FieldType.long)).before args0 about1 = true := code_word (m := ⟨2, 1⟩) (meth := k2m1) (c := k2c1) (by decide +kernel) rfl rfl rfl (by decide +kernel)
set_option maxRecDepth 65536 in
theorem w_c19 : (Jvm.Cond.code ({ cls := "com/example/libakin/libakin/simhash/Layout", name := "metEarlier", desc := "(IJ)Z" } : Jvm.MethodName) prog_28_method_7_code (9 : Nat) (Option.some Jvm.ClassFile.FieldType.boolean)).before args0 about1 = true := code_word (m := ⟨2, 2⟩) (meth := k2m2) (c := k2c2) (by decide +kernel) rfl rfl rfl (by decide +kernel)
def codes1 : List Jvm.Cond := [Jvm.Cond.code x code maxLocals ret, Jvm.Cond.code ({ cls := "com/example/libakin/libakin/simhash/Layout", name := "<init>", desc := "(II)V" } : Jvm.MethodName) prog_28_method_1_code (13 : Nat) (Option.none : Option Jvm.ClassFile.FieldType), Jvm.Cond.code ({ cls := "java/lang/Object", name := "<init>", desc := "()V" } : Jvm.MethodName) object_method_1_code (1 : Nat) (Option.none : Option Jvm.ClassFile.FieldType), Jvm.Cond.code ({ cls := "java/util/ArrayList", name := "<init>", desc := "()V" } : Jvm.MethodName) jdk_38_method_2_code (1 : Nat) (Option.none : Option Jvm.ClassFile.FieldType), Jvm.Cond.code ({ cls := "java/util/AbstractList", name := "<init>", desc := "()V" } : Jvm.MethodName) jdk_39_method_1_code (1 : Nat) (Option.none : Option Jvm.ClassFile.FieldType), Jvm.Cond.code ({ cls := "java/util/AbstractCollection", name := "<init>", desc := "()V" } : Jvm.MethodName) jdk_22_method_1_code (1 : Nat) (Option.none : Option Jvm.ClassFile.FieldType), Jvm.Cond.code ({ cls := "com/example/libakin/libakin/simhash/Layout", name := "choose", desc := "(III[IILjava/util/List;)V" } : Jvm.MethodName) prog_28_method_10_code (7 : Nat) (Option.none : Option Jvm.ClassFile.FieldType), Jvm.Cond.code ({ cls := "java/util/ArrayList", name := "add", desc := "(Ljava/lang/Object;)Z" } : Jvm.MethodName) jdk_38_method_25_code (2 : Nat) (Option.some Jvm.ClassFile.FieldType.boolean), Jvm.Cond.code ({ cls := "java/util/ArrayList", name := "add", desc := "(Ljava/lang/Object;[Ljava/lang/Object;I)V" } : Jvm.MethodName) jdk_38_method_24_code (4 : Nat) (Option.none : Option Jvm.ClassFile.FieldType), Jvm.Cond.code ({ cls := "java/util/ArrayList", name := "grow", desc := "()[Ljava/lang/Object;" } : Jvm.MethodName) jdk_38_method_7_code (1 : Nat) (Option.some (Jvm.ClassFile.FieldType.array (Jvm.ClassFile.FieldType.object "java/lang/Object"))), Jvm.Cond.code ({ cls := "java/util/ArrayList", name := "grow", desc := "(I)[Ljava/lang/Object;" } : Jvm.MethodName) jdk_38_method_6_code (4 : Nat) (Option.some (Jvm.ClassFile.FieldType.array (Jvm.ClassFile.FieldType.object "java/lang/Object"))), Jvm.Cond.code ({ cls := "java/lang/Math", name := "max", desc := "(II)I" } : Jvm.MethodName) jdk_29_method_65_code (2 : Nat) (Option.some Jvm.ClassFile.FieldType.int), Jvm.Cond.code ({ cls := "java/util/ArrayList", name := "size", desc := "()I" } : Jvm.MethodName) jdk_38_method_8_code (1 : Nat) (Option.some Jvm.ClassFile.FieldType.int), Jvm.Cond.code ({ cls := "java/util/ArrayList", name := "get", desc := "(I)Ljava/lang/Object;" } : Jvm.MethodName) jdk_38_method_20_code (2 : Nat) (Option.some (Jvm.ClassFile.FieldType.object "java/lang/Object")), Jvm.Cond.code ({ cls := "java/util/Objects", name := "checkIndex", desc := "(II)I" } : Jvm.MethodName) jdk_31_method_17_code (2 : Nat) (Option.some Jvm.ClassFile.FieldType.int), Jvm.Cond.code ({ cls := "jdk/internal/util/Preconditions", name := "checkIndex", desc := "(IILjava/util/function/BiFunction;)I" } : Jvm.MethodName) jdk_41_method_11_code (3 : Nat) (Option.some Jvm.ClassFile.FieldType.int), Jvm.Cond.code ({ cls := "java/util/ArrayList", name := "elementData", desc := "(I)Ljava/lang/Object;" } : Jvm.MethodName) jdk_38_method_18_code (2 : Nat) (Option.some (Jvm.ClassFile.FieldType.object "java/lang/Object")), Jvm.Cond.code ({ cls := "com/example/libakin/libakin/simhash/Layout", name := "unkeyedPrefix", desc := "(I)J" } : Jvm.MethodName) prog_28_method_8_code (6 : Nat) (Option.some Jvm.ClassFile.FieldType.long), Jvm.Cond.code ({ cls := "com/example/libakin/libakin/simhash/Layout", name := "key", desc := "(IJ)J" } : Jvm.MethodName) prog_28_method_6_code (9 : Nat) (Option.some Jvm.ClassFile.FieldType.long), Jvm.Cond.code ({ cls := "com/example/libakin/libakin/simhash/Layout", name := "metEarlier", desc := "(IJ)Z" } : Jvm.MethodName) prog_28_method_7_code (9 : Nat) (Option.some Jvm.ClassFile.FieldType.boolean)]
set_option maxRecDepth 65536 in
theorem codes_eq : words1.filter isCode = codes1 := rfl
theorem w_codes : ∀ c ∈ words1.filter isCode, c.before args0 about1 = true := by
  rw [codes_eq]
  intro c hc
  simp only [codes1, List.mem_cons, List.not_mem_nil, or_false] at hc
  rcases hc with rfl | rfl | rfl | rfl | rfl | rfl | rfl | rfl | rfl | rfl | rfl | rfl | rfl | rfl | rfl | rfl | rfl | rfl | rfl | rfl
  · exact w_c0
  · exact w_c1
  · exact w_c2
  · exact w_c3
  · exact w_c4
  · exact w_c5
  · exact w_c6
  · exact w_c7
  · exact w_c8
  · exact w_c9
  · exact w_c10
  · exact w_c11
  · exact w_c12
  · exact w_c13
  · exact w_c14
  · exact w_c15
  · exact w_c16
  · exact w_c17
  · exact w_c18
  · exact w_c19
set_option maxRecDepth 65536 in
theorem w_t1 : (words1.take 24).all (fun c => isCode c || c.before args0 about1) = true := by decide +kernel
set_option maxRecDepth 65536 in
theorem w_t2 : ((words1.drop 24).take 24).all (fun c => isCode c || c.before args0 about1) = true := by decide +kernel
set_option maxRecDepth 65536 in
theorem w_t3 : (((words1.drop 24).drop 24).take 24).all (fun c => isCode c || c.before args0 about1) = true := by decide +kernel
set_option maxRecDepth 65536 in
theorem w_t4 : ((((words1.drop 24).drop 24).drop 24).take 24).all (fun c => isCode c || c.before args0 about1) = true := by decide +kernel
set_option maxRecDepth 65536 in
theorem w_t5 : (((((words1.drop 24).drop 24).drop 24).drop 24).take 24).all (fun c => isCode c || c.before args0 about1) = true := by decide +kernel
set_option maxRecDepth 65536 in
theorem w_t6 : ((((((words1.drop 24).drop 24).drop 24).drop 24).drop 24).take 24).all (fun c => isCode c || c.before args0 about1) = true := by decide +kernel
set_option maxRecDepth 65536 in
theorem w_t7 : ((((((words1.drop 24).drop 24).drop 24).drop 24).drop 24).drop 24).all (fun c => isCode c || c.before args0 about1) = true := by decide +kernel
theorem w_tables : (allAtoms (Jvm.Cond.code x code maxLocals ret :: tables_1)).before args0 about1 = true := by
  rw [allAtoms_all]
  show words1.all (fun c => c.before args0 about1) = true
  refine all_split ?_ w_codes
  rw [← List.take_append_drop 24 words1, List.all_append, w_t1, ← List.take_append_drop 24 (words1.drop 24), List.all_append, w_t2, ← List.take_append_drop 24 ((words1.drop 24).drop 24), List.all_append, w_t3, ← List.take_append_drop 24 (((words1.drop 24).drop 24).drop 24), List.all_append, w_t4, ← List.take_append_drop 24 ((((words1.drop 24).drop 24).drop 24).drop 24), List.all_append, w_t5, ← List.take_append_drop 24 (((((words1.drop 24).drop 24).drop 24).drop 24).drop 24), List.all_append, w_t6, w_t7]
  rfl
set_option maxRecDepth 65536 in
theorem w_rest : rest_1_c.before args0 about1 = true := by decide +kernel
set_option maxRecDepth 65536 in
theorem w_case : (Jvm.Cond.and given_1 narrow_1).before args0 about1 = true := by decide +kernel
theorem w_applies : (headSpec (Jvm.Cond.code x code maxLocals ret :: tables_1) room_1).applies x e0.platform about1 = true :=
  (Spec.applies_iff w_frames).mpr ⟨w_running, w_runnable, w_alone, w_named, w_hears, w_ripe, w_room, w_tables⟩
theorem atStart : AtStart classFile x code maxLocals ret World_1 tables_1 room_1 Calls_1 rest_1 Pre_1 launch0 p0 e0 about1 theMethod args0 below0 :=
  ⟨lists_1, trivial, launch0.admits_env _ _ _, launch0.least_env, fairChoices_fair.cas, fairChoices_fair.clock, w_frames, w_args, w_heap, w_applies, trivial, w_rest, w_case⟩
end start1
theorem witness_1 : WitnessClaimed_1 := ⟨start1.p0, start1.e0, start1.about1, start1.theMethod, start1.args0, start1.below0, start1.atStart⟩
end Jvm.Pilot.@@N@@
