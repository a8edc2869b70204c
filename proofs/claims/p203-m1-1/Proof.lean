import JvmDerived
import JvmDerived.Pilot.@@N@@Statement
import JvmDerived.Pilot.@@N@@Code
set_option linter.unusedVariables false
set_option linter.unusedSimpArgs false
namespace Jvm.RoadKit
open Sem ClassFile Op Lib Jvm.Stand Jvm.Free Jvm.LawKit
section New
variable {p : Program} {l : Launch} {e : Env} {R : Room} {s : State} {m : MethodId} {args : Array Value} {below : List Frame} {meth : Method} {c : Code} {T : State} {locs : List Loc} {cells slots : Nat}
theorem retI (X : Stand p l e R s m args below meth c T locs cells slots) (hx : p.tables.exec = Jvm.exec) {pc : Nat} {Ls : Array Slot} {z : Int32} {rest : List Value} (hret : meth.sig.returnType = some .int) (hd : decode c.code pc = .ok (.ireturn, 1)) {fs : List Frame}
    (hl : ∀ (f : JFrame) (acts : List Action), f.method = m → f.locked = none → f.entered = [] → (doReturn e (T.setTop f) acts (some (.int z))).1 = T.setFrames fs) : Steps p.tables e below (T.setTop (mkF m pc Ls (.int z :: rest))) (T.setFrames fs) := by
  have hm' : T.vm.method? m = some meth := X.method'
  have hn : narrow .int (.int z) = .int z := rfl
  show Steps p.tables e below (T.setTop { method := m, pc := pc, locals := Ls, stack := _ :: rest, locked := none }) _
  jvm_step X.here [X.here.top, hx, hd, hm', hret, hn]
  first | (intro acts; rw [hl _ acts rfl rfl rfl]) | rw [hl _ _ rfl rfl rfl]
  exact Steps.refl _
end New
end Jvm.RoadKit
namespace Jvm.Pilot.@@N@@
open Jvm Jvm.ClassFile Sem Op Lib Jvm.Free Jvm.Stand Jvm.LawKit Jvm.RoadKit Bundle Jvm.Pilot.@@N@@.Jvm.D
section Own
variable {p : Program} {l : Launch} {e : Env} {R : Room} {s : State} {m : MethodId} {args : Array Value} {below : List Frame} {meth : Method} {c : Code} {T T' : State} {locs : List Loc} {cells slots cc nn : Nat} {f f' : JFrame} {Q : Option Value → Heap → List Loc → Prop} {Z : State} {h h' : Heap} {ws : List Addr}
/-- from this state the body comes to its end, and what it leaves is as Q says -/
def own_Ends (p : Program) (e : Env) (below : List Frame) (s : State) (Q : Option Value → Heap → List Loc → Prop) (cc nn : Nat) (T : State) (f : JFrame) : Prop :=
  ∃ s₂ o, Steps p.tables e below (T.setTop f) s₂ ∧ s₂.status = .running ∧ Ended s₂ below o ∧ ∃ v L, o = .returned v ∧ Q v s₂.heap L ∧ FrameEnd s o s₂ L cc nn
theorem own_go (k : ∀ t, Steps p.tables e below (T'.setTop f') t → Steps p.tables e below (T.setTop f) t) (h : own_Ends p e below s Q cc nn T' f') : own_Ends p e below s Q cc nn T f := by
  obtain ⟨s₂, o, h1, h2⟩ := h
  exact ⟨s₂, o, k _ h1, h2⟩
theorem own_ret (X : Stand p l e R s m args below meth c T locs cells slots) {v : Option Value} (hv : meth.sig.returnType = none → v = none) (hlk : meth.locks = false)
    (st : ∀ fs, (∀ (f : JFrame) (acts : List Action), f.method = m → f.locked = none → f.entered = [] → (doReturn e (T.setTop f) acts v).1 = T.setFrames fs) → Steps p.tables e below (T.setTop f) (T.setFrames fs)) (hQ : Q v T.heap locs) (h1 : cells ≤ cc) (h2 : slots ≤ nn) :
    own_Ends p e below s Q cc nn T f := by
  obtain ⟨fs, hr, hrun, hended, hW, hsame⟩ := X.leave (v := v) hv hlk
  exact ⟨_, _, st fs hr, hrun, hended, _, _, rfl, hQ, ⟨_, rfl⟩, hW, hsame.mono h1 h2⟩
theorem own_retL (X : Stand p l e R s m args below meth c T locs cells slots) (hx : p.tables.exec = Jvm.exec) {pc : Nat} {Ls : Array Slot} {z : Int64} {rest : List Value} (hret : meth.sig.returnType = some .long) (hd : decode c.code pc = .ok (.lreturn, 1)) {fs : List Frame}
    (hl : ∀ (f : JFrame) (acts : List Action), f.method = m → f.locked = none → f.entered = [] → (doReturn e (T.setTop f) acts (some (.long z))).1 = T.setFrames fs) : Steps p.tables e below (T.setTop (mkF m pc Ls (.long z :: rest))) (T.setFrames fs) :=
  retOut X hx hret rfl (Or.inr (Or.inl ⟨rfl, rfl, _, rfl⟩)) hd hl
theorem own_retA (X : Stand p l e R s m args below meth c T locs cells slots) (hx : p.tables.exec = Jvm.exec) {pc : Nat} {Ls : Array Slot} {w : Value} {t : FieldType} {rest : List Value} (hret : meth.sig.returnType = some t) (ht : t.isReference = true) (hw : w.isRef = true) (hd : decode c.code pc = .ok (.areturn, 1)) {fs : List Frame}
    (hl : ∀ (f : JFrame) (acts : List Action), f.method = m → f.locked = none → f.entered = [] → (doReturn e (T.setTop f) acts (some w)).1 = T.setFrames fs) : Steps p.tables e below (T.setTop (mkF m pc Ls (w :: rest))) (T.setFrames fs) :=
  retOut X hx hret (by cases t <;> first | rfl | (cases ht; done)) (Or.inr (Or.inr (Or.inr (Or.inr ⟨rfl, ht, hw⟩)))) hd hl
theorem own_lc_eq {a b : Int64} : lcmpW a b = 0 ↔ a = b := by
  simp only [lcmpW, gt_iff_lt]
  by_cases h1 : b < a
  · rw [if_pos h1]; exact ⟨fun q => absurd q (by decide), fun q => absurd h1 (by rw [q, Int64.lt_iff_toInt_lt]; omega)⟩
  · rw [if_neg h1]
    by_cases h2 : a = b
    · rw [if_pos h2]; exact ⟨fun _ => h2, fun _ => rfl⟩
    · rw [if_neg h2]; exact ⟨fun q => absurd q (by decide), fun q => absurd q h2⟩
section Arr
variable {target : State} {g : JFrame} {a : Addr} {kc : ClassId} {ty : FieldType} {z : Int32} {vs : List Value} {dv : Value}
theorem own_alen (X : Stand p l e R s m args below meth c T locs cells slots) (hx : p.tables.exec = Jvm.exec) (hZ : Z.Warmed39 s.vm) (eT : T.heap = h) (V : Arv Z h a kc ty z vs dv) (hg : g.method = m) {rest : List Value} (hs : g.stack = .ref a :: rest) (hd : decode c.code g.pc = .ok (.arraylength, 1))
    (hr : Steps p.tables e below (T.setTop { g with pc := g.pc + 1, stack := .int z :: rest }) target) : Steps p.tables e below (T.setTop g) target := by
  obtain ⟨cl, Ar, -, Sz, Ng, -, -⟩ := V
  exact X.arraylength hx (by rw [eT]; exact Ar.1) (State.isArrayOf_alike hZ.alike Ar.2.1) hg hs hd _ (by rw [len_of Sz Ng]; exact hr)
theorem own_ldI (X : Stand p l e R s m args below meth c T locs cells slots) (hx : p.tables.exec = Jvm.exec) (hZ : Z.Warmed39 s.vm) (eT : T.heap = h) (V : Arv Z h a kc .int z vs dv) {j : Int32} {x : Int32} (hin : ¬ j < 0 ∧ j < z) (hv : vs.getD j.toNatClampNeg dv = .int x) (hg : g.method = m) {rest : List Value} (hs : g.stack = .int j :: .ref a :: rest) (hd : decode c.code g.pc = .ok (.iaload, 1))
    (hr : Steps p.tables e below (T.setTop { g with pc := g.pc + 1, stack := .int x :: rest }) target) : Steps p.tables e below (T.setTop g) target := by
  obtain ⟨cl, Ar, -, Sz, Ng, Hs, Ft⟩ := V
  have hq := inb_of (j := j) Sz hin
  exact X.iaload hx (j := j) (v := .int x) (by rw [eT]; exact Ar.1) (State.isArrayOf_alike hZ.alike Ar.2.1) Ar.2.2 hq (Hs.at hq hv) hg hs hd _ hr
theorem own_ldZ (X : Stand p l e R s m args below meth c T locs cells slots) (hx : p.tables.exec = Jvm.exec) (hZ : Z.Warmed39 s.vm) (eT : T.heap = h) (V : Arv Z h a kc .boolean z vs dv) {j : Int32} {x : Int32} (hin : ¬ j < 0 ∧ j < z) (hv : vs.getD j.toNatClampNeg dv = .int x) (hg : g.method = m) {rest : List Value} (hs : g.stack = .int j :: .ref a :: rest) (hd : decode c.code g.pc = .ok (.baload, 1))
    (hr : Steps p.tables e below (T.setTop { g with pc := g.pc + 1, stack := .int x :: rest }) target) : Steps p.tables e below (T.setTop g) target := by
  obtain ⟨cl, Ar, -, Sz, Ng, Hs, Ft⟩ := V
  have hq := inb_of (j := j) Sz hin
  exact X.baloadBooleans hx (j := j) (v := .int x) (by rw [eT]; exact Ar.1) (State.isArrayOf_alike hZ.alike Ar.2.1) Ar.2.2 hq (Hs.at hq hv) hg hs hd _ hr
theorem own_ldR (X : Stand p l e R s m args below meth c T locs cells slots) (hx : p.tables.exec = Jvm.exec) (hZ : Z.Warmed39 s.vm) (eT : T.heap = h) (V : Arv Z h a kc ty z vs dv) {j : Int32} {x : Value} (hin : ¬ j < 0 ∧ j < z) (hv : vs.getD j.toNatClampNeg dv = x) (hty : ty.isReference = true) (hg : g.method = m) {rest : List Value} (hs : g.stack = .int j :: .ref a :: rest) (hd : decode c.code g.pc = .ok (.aaload, 1))
    (hr : Steps p.tables e below (T.setTop { g with pc := g.pc + 1, stack := x :: rest }) target) : Steps p.tables e below (T.setTop g) target := by
  obtain ⟨cl, Ar, -, Sz, Ng, Hs, Ft⟩ := V
  have hq := inb_of (j := j) Sz hin
  exact X.aaload hx (j := j) (v := x) (by rw [eT]; exact Ar.1) (State.isArrayOf_alike hZ.alike Ar.2.1) hty Ar.2.2 hq (Hs.at hq hv) hg hs hd _ hr
theorem own_stI (X : Stand p l e R s m args below meth c T locs cells slots) (hx : p.tables.exec = Jvm.exec) (hZ : Z.Warmed39 s.vm) (eT : T.heap = h) (V : Arv Z h a kc .int z vs dv) {j : Int32} {x : Int32} (hin : ¬ j < 0 ∧ j < z) (i : Nat) (hj : j.toNatClampNeg = i) (hi : i < vs.length) (hg : g.method = m) {rest : List Value} (hs : g.stack = .int x :: .int j :: .ref a :: rest) (hd : decode c.code g.pc = .ok (.iastore, 1)) :
    ∃ T' h', Stand p l e R s m args below meth c T' (locs ++ [⟨a, j.toNatClampNeg⟩]) cells slots ∧ T'.heap = h' ∧ Wr h h' a j.toNatClampNeg (.int x) ∧ Arv Z h' a kc .int z (vs.set i (.int x)) dv ∧ ∀ target, Steps p.tables e below (T'.setTop { g with pc := g.pc + 1, stack := rest }) target → Steps p.tables e below (T.setTop g) target := by
  obtain ⟨cl, Ar, q, Sz, Ng, Hs, Ft⟩ := V
  obtain ⟨T', h', X', e', W', st⟩ := stI X hx hZ eT Ar (j := j) (inb_of Sz hin) hg hs hd
  exact ⟨T', h', X', e', W', Arv.set Ar q Sz Ng Hs Ft rfl W' i hj hi, st⟩
theorem own_stJ (X : Stand p l e R s m args below meth c T locs cells slots) (hx : p.tables.exec = Jvm.exec) (hZ : Z.Warmed39 s.vm) (eT : T.heap = h) (V : Arv Z h a kc .long z vs dv) {j : Int32} {x : Int64} (hin : ¬ j < 0 ∧ j < z) (i : Nat) (hj : j.toNatClampNeg = i) (hi : i < vs.length) (hg : g.method = m) {rest : List Value} (hs : g.stack = .long x :: .int j :: .ref a :: rest) (hd : decode c.code g.pc = .ok (.lastore, 1)) :
    ∃ T' h', Stand p l e R s m args below meth c T' (locs ++ [⟨a, j.toNatClampNeg⟩]) cells slots ∧ T'.heap = h' ∧ Wr h h' a j.toNatClampNeg (.long x) ∧ Arv Z h' a kc .long z (vs.set i (.long x)) dv ∧ ∀ target, Steps p.tables e below (T'.setTop { g with pc := g.pc + 1, stack := rest }) target → Steps p.tables e below (T.setTop g) target := by
  obtain ⟨cl, Ar, q, Sz, Ng, Hs, Ft⟩ := V
  obtain ⟨T', h', X', e', W', st⟩ := stJ X hx hZ eT Ar (j := j) (inb_of Sz hin) hg hs hd
  exact ⟨T', h', X', e', W', Arv.set Ar q Sz Ng Hs Ft rfl W' i hj hi, st⟩
theorem own_stZ (X : Stand p l e R s m args below meth c T locs cells slots) (hx : p.tables.exec = Jvm.exec) (hZ : Z.Warmed39 s.vm) (eT : T.heap = h) (V : Arv Z h a kc .boolean z vs dv) {j : Int32} {x : Int32} (hin : ¬ j < 0 ∧ j < z) (i : Nat) (hj : j.toNatClampNeg = i) (hi : i < vs.length) (hg : g.method = m) {rest : List Value} (hs : g.stack = .int x :: .int j :: .ref a :: rest) (hd : decode c.code g.pc = .ok (.bastore, 1)) :
    ∃ T' h', Stand p l e R s m args below meth c T' (locs ++ [⟨a, j.toNatClampNeg⟩]) cells slots ∧ T'.heap = h' ∧ Wr h h' a j.toNatClampNeg (.int (nar .boolean x)) ∧ Arv Z h' a kc .boolean z (vs.set i (.int (nar .boolean x))) dv ∧ ∀ target, Steps p.tables e below (T'.setTop { g with pc := g.pc + 1, stack := rest }) target → Steps p.tables e below (T.setTop g) target := by
  obtain ⟨cl, Ar, q, Sz, Ng, Hs, Ft⟩ := V
  obtain ⟨T', h', X', e', W', st⟩ := stZ X hx hZ eT Ar (j := j) (inb_of Sz hin) hg hs hd
  exact ⟨T', h', X', e', W', Arv.set Ar q Sz Ng Hs Ft (fits_nar_bool _) W' i hj hi, st⟩
theorem own_stR (X : Stand p l e R s m args below meth c T locs cells slots) (hx : p.tables.exec = Jvm.exec) (hZ : Z.Warmed39 s.vm) (eT : T.heap = h) (V : Arv Z h a kc ty z vs dv) {j : Int32} {x : Value} (hin : ¬ j < 0 ∧ j < z) (hty : ty.isReference = true) (hf : fits ty x = true) (F : ∀ cl, Arr Z h a cl ty → cl.cls = kc → Sto Z h a x) (i : Nat) (hj : j.toNatClampNeg = i) (hi : i < vs.length) (hg : g.method = m) {rest : List Value} (hs : g.stack = x :: .int j :: .ref a :: rest) (hd : decode c.code g.pc = .ok (.aastore, 1)) :
    ∃ T' h', Stand p l e R s m args below meth c T' (locs ++ [⟨a, j.toNatClampNeg⟩]) cells slots ∧ T'.heap = h' ∧ Wr h h' a j.toNatClampNeg x ∧ Arv Z h' a kc ty z (vs.set i x) dv ∧ ∀ target, Steps p.tables e below (T'.setTop { g with pc := g.pc + 1, stack := rest }) target → Steps p.tables e below (T.setTop g) target := by
  obtain ⟨cl, Ar, q, Sz, Ng, Hs, Ft⟩ := V
  obtain ⟨T', h', X', e', W', st⟩ := stR X hx hZ eT Ar (j := j) (inb_of Sz hin) hty (F cl Ar q) hg hs hd
  exact ⟨T', h', X', e', W', Arv.set Ar q Sz Ng Hs Ft hf W' i hj hi, st⟩
end Arr
section Dbl
open Jvm.Free.XS
variable {tb : Tables} [Ours tb] {target : State} {g : JFrame}
theorem own_dup2 (h : At T m c below) (hx : tb.exec = Jvm.exec) (hg : g.method = m) {x y : Value} {rest : List Value} (hd : decode c.code g.pc = .ok (.dup2, 1)) (hs : g.stack = x :: y :: rest) (h1 : x.category = 1) (h2 : y.category = 1) (hr : Steps tb e below (T.setTop { g with pc := g.pc + 1, stack := x :: y :: x :: y :: rest }) target) : Steps tb e below (T.setTop g) target := by
  subst hg
  jvm_step h [h.top, hx, hd, hs, h1, h2]
  exact hr
end Dbl
abbrev oI (x : Int32) : Slot := .val (.int x)
abbrev oR (x : Addr) : Slot := .val (.ref x)
abbrev oU : Slot := .unset
abbrev oS : Slot := .second
abbrev vI (x : Int32) : Value := .int x
abbrev vR (x : Addr) : Value := .ref x
theorem own_sta_keep {C n d : String} {v : Value} (F : Sta Z h C n d v) (K : Keep h h' ws) (q : ∀ st ∈ ws, ∀ c, h[st]? = some c → c.vm.isStatics = false) : Sta Z h' C n d v := by
  obtain ⟨cf, i, k, f, st, cell, h1, h2, h3, h4, h5, h6, h7⟩ := F
  exact ⟨cf, i, k, f, st, cell, h1, h2, h3, h4, K.2.1 st cell h5 (fun z => by rw [q st z cell h5] at h6; cases h6), h6, h7⟩
theorem own_ws0 : ∀ st ∈ ([] : List Addr), ∀ c, h[st]? = some c → c.vm.isStatics = false := fun _ q => nomatch q
theorem own_wsE {a : Addr} {C : String} (F : Exa Z h a C) (q : ∀ st ∈ ws, ∀ c, h[st]? = some c → c.vm.isStatics = false) : ∀ st ∈ a :: ws, ∀ c, h[st]? = some c → c.vm.isStatics = false := fun st hs c hc => by
  rcases List.mem_cons.mp hs with rfl | hs
  · obtain ⟨cell, k, h1, -, -, h4, -⟩ := F; cases h1.symm.trans hc; exact h4
  · exact q st hs c hc
theorem own_wsV {a : Addr} {k : ClassId} {ty : FieldType} {z : Int32} {vs : List Value} {dv : Value} (F : Arv Z h a k ty z vs dv) (q : ∀ st ∈ ws, ∀ c, h[st]? = some c → c.vm.isStatics = false) : ∀ st ∈ a :: ws, ∀ c, h[st]? = some c → c.vm.isStatics = false := fun st hs c hc => by
  rcases List.mem_cons.mp hs with rfl | hs
  · obtain ⟨cl, A, -⟩ := F; cases A.1.symm.trans hc; exact A.plain
  · exact q st hs c hc
theorem own_seli {s : State} {args : Array Value} {n : Nat} {y : MethodName} (h : (Cond.instantiable y.cls n).before args s = true) (hp : s.PrivateAt y) (hi : (Cond.instanceMethod y).before args s = true) (hy : y.cls ≠ "java/lang/invoke/MethodHandle" ∧ y.cls ≠ "java/lang/invoke/VarHandle") : (Cond.selects y.cls y y).before args s = true := by
  obtain ⟨t', kt, g1, g2, g3, g4, -⟩ := Cond.instantiable_spec h
  exact selects_self_of_private g1 g2 (Bool.or_eq_false_iff.mp g4).1 hp hi hy
theorem own_out {kc ks : Nat} {Q : Option Value → Heap → List Loc → Prop} {s₀ : State} {F : Option Value → JFrame} {P1 : Vm → Prop}
    (h : ∃ (v : Option Value) (vm₁ : Vm) (B : Pt), P1 vm₁ ∧ Stand p l e R s m args below meth c B.U B.locs B.cells B.slots ∧ (∃ L, Q v B.U.heap L ∧ B.locs = locs ++ L ∧ B.cells = cells + kc ∧ B.slots = slots + ks) ∧ Steps p.tables e below s₀ (B.U.setTop (F v))) :
    ∃ v T L, Stand p l e R s m args below meth c T (locs ++ L) (cells + kc) (slots + ks) ∧ Q v T.heap L ∧ Steps p.tables e below s₀ (T.setTop (F v)) := by
  obtain ⟨v, -, ⟨T, L0, k, n⟩, -, X, ⟨L, hQ, e1, e2, e3⟩, st⟩ := h
  dsimp only [Pt.U, Pt.locs, Pt.cells, Pt.slots] at X e1 e2 e3 st hQ
  subst e1 e2 e3
  exact ⟨v, T, L, X, hQ, st⟩
theorem own_outC {kc ks : Nat} {Q : Option Value → Heap → List Loc → Prop} {s₀ : State} {F : Option Value → JFrame} {P1 : Vm → Prop}
    (h : ∃ (v : Option Value) (vm₁ : Vm) (B : Pt), P1 vm₁ ∧ Stand p l e R s m args below meth c B.U B.locs B.cells B.slots ∧ (∃ L, Q v B.U.heap L ∧ B.locs = locs ++ L ∧ B.cells = cells + kc ∧ B.slots = slots + ks) ∧ ∀ target, Steps p.tables e below (B.U.setTop (F v)) target → Steps p.tables e below s₀ target) :
    ∃ v T L, Stand p l e R s m args below meth c T (locs ++ L) (cells + kc) (slots + ks) ∧ Q v T.heap L ∧ ∀ target, Steps p.tables e below (T.setTop (F v)) target → Steps p.tables e below s₀ target := by
  obtain ⟨v, -, ⟨T, L0, k, n⟩, -, X, ⟨L, hQ, e1, e2, e3⟩, st⟩ := h
  dsimp only [Pt.U, Pt.locs, Pt.cells, Pt.slots] at X e1 e2 e3 st hQ
  subst e1 e2 e3
  exact ⟨v, T, L, X, hQ, st⟩
theorem own_hide {n0 : Nat} (X : Stand p l e R s m args below meth c T locs cells slots) (N : Fr n0 locs) : ∃ L, Stand p l e R s m args below meth c T L cells slots ∧ Fr n0 L := ⟨_, X, N⟩
end Own
abbrev oOb : String := "java/lang/Object"
abbrev oLy : String := "com/example/libakin/libakin/simhash/Layout"
abbrev mn0:MethodName:=⟨"java/util/AbstractCollection","<init>","()V"⟩
abbrev mn1:MethodName:=⟨"java/util/AbstractList","<init>","()V"⟩
abbrev mn2:MethodName:=⟨"java/util/ArrayList","<init>","()V"⟩
abbrev mn3:MethodName:=⟨"java/lang/Math","max","(II)I"⟩
abbrev mn4:MethodName:=⟨"java/util/ArrayList","grow","(I)[Ljava/lang/Object;"⟩
abbrev mn5:MethodName:=⟨"java/util/ArrayList","grow","()[Ljava/lang/Object;"⟩
abbrev mn6:MethodName:=⟨"java/util/ArrayList","add","(Ljava/lang/Object;[Ljava/lang/Object;I)V"⟩
abbrev mn7:MethodName:=⟨"java/util/ArrayList","add","(Ljava/lang/Object;)Z"⟩
abbrev mn8:MethodName:=⟨"java/util/List","add","(Ljava/lang/Object;)Z"⟩
abbrev mn9:MethodName:=⟨oLy,"choose","(III[IILjava/util/List;)V"⟩
abbrev mn10:MethodName:=⟨"java/util/ArrayList","size","()I"⟩
abbrev mn11:MethodName:=⟨"java/util/List","size","()I"⟩
abbrev mn12:MethodName:=⟨"jdk/internal/util/Preconditions","checkIndex","(IILjava/util/function/BiFunction;)I"⟩
abbrev mn13:MethodName:=⟨"java/util/Objects","checkIndex","(II)I"⟩
abbrev mn14:MethodName:=⟨"java/util/ArrayList","elementData","(I)Ljava/lang/Object;"⟩
abbrev mn15:MethodName:=⟨"java/util/ArrayList","get","(I)Ljava/lang/Object;"⟩
abbrev mn16:MethodName:=⟨"java/util/List","get","(I)Ljava/lang/Object;"⟩
abbrev mn17:MethodName:=⟨oLy,"<init>","(II)V"⟩
abbrev mn18:MethodName:=⟨oLy,"key","(IJ)J"⟩
abbrev mn19:MethodName:=⟨"com/example/libakin/libakin/simhash/LayoutKeyPinLaw","expected","(IIJ)J"⟩
abbrev mn20:MethodName:=⟨oLy,"unkeyedPrefix","(I)J"⟩
abbrev HW (a0 : Array Value) (Z : State) : Prop := ∀ d ∈ tables_1, d.before a0 Z = true
abbrev oQ (x : Int64) : Slot := .val (.long x)
abbrev oF0 (Z:State)(h:Heap)(a:Addr)(v:Value):Prop:=Fld Z h a "java/util/AbstractList" "modCount" "I" v
abbrev oF1 (Z:State)(h:Heap)(a:Addr)(v:Value):Prop:=Fld Z h a "java/util/ArrayList" "elementData" "[Ljava/lang/Object;" v
abbrev oF2 (Z:State)(h:Heap)(a:Addr)(v:Value):Prop:=Fld Z h a "java/util/ArrayList" "size" "I" v
abbrev oF3 (Z:State)(h:Heap)(a:Addr)(v:Value):Prop:=Fld Z h a "com/example/libakin/libakin/simhash/Layout" "fromShifts" "[[I" v
abbrev oF4 (Z:State)(h:Heap)(a:Addr)(v:Value):Prop:=Fld Z h a "com/example/libakin/libakin/simhash/Layout" "widths" "[[I" v
abbrev oF5 (Z:State)(h:Heap)(a:Addr)(v:Value):Prop:=Fld Z h a "com/example/libakin/libakin/simhash/Layout" "prefixes" "[I" v
abbrev oF6 (Z:State)(h:Heap)(a:Addr)(v:Value):Prop:=Fld Z h a "com/example/libakin/libakin/simhash/Layout" "earlierPrefixes" "[[J" v
theorem oI2 {α : Type} {x0 x1 x2 : α} {r : List α} {p : Prop} : x2 ∈ x0 :: x1 :: x2 :: r ∨ p := Or.inl (List.mem_of_getElem? (i := 2) rfl)
theorem oI3 {α : Type} {x0 x1 x2 x3 : α} {r : List α} {p : Prop} : x3 ∈ x0 :: x1 :: x2 :: x3 :: r ∨ p := Or.inl (List.mem_of_getElem? (i := 3) rfl)
theorem oI4 {α : Type} {x0 x1 x2 x3 x4 : α} {r : List α} {p : Prop} : x4 ∈ x0 :: x1 :: x2 :: x3 :: x4 :: r ∨ p := Or.inl (List.mem_of_getElem? (i := 4) rfl)
theorem oI5 {α : Type} {x0 x1 x2 x3 x4 x5 : α} {r : List α} {p : Prop} : x5 ∈ x0 :: x1 :: x2 :: x3 :: x4 :: x5 :: r ∨ p := Or.inl (List.mem_of_getElem? (i := 5) rfl)
theorem oI6 {α : Type} {x0 x1 x2 x3 x4 x5 x6 : α} {r : List α} {p : Prop} : x6 ∈ x0 :: x1 :: x2 :: x3 :: x4 :: x5 :: x6 :: r ∨ p := Or.inl (List.mem_of_getElem? (i := 6) rfl)
theorem oZ {a b : Nat} (h : 2 * 0 + a = b) : 2 * 0 + a ≤ b := Nat.le_of_eq h
theorem oI0 {α : Type} {a : α} {r : List α} {p : Prop} : a ∈ a :: r ∨ p := Or.inl (List.mem_cons_self ..)
theorem oI1 {α : Type} {a b : α} {r : List α} {p : Prop} : a ∈ b :: a :: r ∨ p := Or.inl (List.mem_cons_of_mem _ (List.mem_cons_self ..))
theorem oT {a b c : Nat} (h : a ≤ b) (h2 : b ≤ c) : a ≤ c := Nat.le_trans h h2
theorem oW {a b c : Nat} (h : a < b) (h2 : b ≤ c) : a < c := Nat.lt_of_lt_of_le h h2
theorem ow0 {Z:State} {a0:Array Value} (hw:HW a0 Z):(Jvm.Cond.constant "com/example/libakin/libakin/simhash/LayoutKeyPinLaw" (7:Nat) (2147483647:Int32)).before a0 Z = true:=hw _ (List.mem_of_getElem? (i:=0) rfl)
theorem ow1 {Z:State} {a0:Array Value} (hw:HW a0 Z):(Jvm.Cond.classLink "com/example/libakin/libakin/simhash/LayoutKeyPinLaw" (8:Nat) oLy).before a0 Z = true:=hw _ (List.mem_of_getElem? (i:=1) rfl)
theorem ow2 {Z:State} {a0:Array Value} (hw:HW a0 Z):(Jvm.Cond.instantiable oLy (4:Nat)).before a0 Z = true:=hw _ (List.mem_of_getElem? (i:=2) rfl)
theorem ow3 {Z:State} {a0:Array Value} (hw:HW a0 Z):(Jvm.Cond.initialized oLy).before a0 Z = true:=hw _ (List.mem_of_getElem? (i:=3) rfl)
theorem ow93 {Z:State} {a0:Array Value} (hw:HW a0 Z):(Jvm.Cond.laysFinal oLy oLy "fromShifts" "[[I").before a0 Z = true:=hw _ (List.mem_of_getElem? (i:=93) rfl)
theorem ow95 {Z:State} {a0:Array Value} (hw:HW a0 Z):(Jvm.Cond.laysFinal oLy oLy "widths" "[[I").before a0 Z = true:=hw _ (List.mem_of_getElem? (i:=95) rfl)
theorem ow97 {Z:State} {a0:Array Value} (hw:HW a0 Z):(Jvm.Cond.laysFinal oLy oLy "prefixes" "[I").before a0 Z = true:=hw _ (List.mem_of_getElem? (i:=97) rfl)
theorem ow123 {Z:State} {a0:Array Value} (hw:HW a0 Z):(Jvm.Cond.laysFinal oLy oLy "earlierPrefixes" "[[J").before a0 Z = true:=hw _ (List.mem_of_getElem? (i:=123) rfl)
theorem ow4 {Z:State} {a0:Array Value} (hw:HW a0 Z):(Jvm.Cond.methodLink "com/example/libakin/libakin/simhash/LayoutKeyPinLaw" (10:Nat) mn17).before a0 Z = true:=hw _ (List.mem_of_getElem? (i:=4) rfl)
theorem ow7 {Z:State} {a0:Array Value} (hw:HW a0 Z):(Jvm.Cond.methodLink oLy (1:Nat) ({ cls:=oOb,name:="<init>",desc:="()V" }:Jvm.MethodName)).before a0 Z = true:=hw _ (List.mem_of_getElem? (i:=7) rfl)
theorem ow9 {Z:State} {a0:Array Value} (hw:HW a0 Z):(Jvm.Cond.code ({ cls:=oOb,name:="<init>",desc:="()V" }:Jvm.MethodName) object_method_1_code (1:Nat) (Option.none:Option Jvm.ClassFile.FieldType)).before a0 Z = true:=hw _ (List.mem_of_getElem? (i:=9) rfl)
theorem ow8 {Z:State} {a0:Array Value} (hw:HW a0 Z):(Jvm.Cond.instanceMethod ({ cls:=oOb,name:="<init>",desc:="()V" }:Jvm.MethodName)).before a0 Z = true:=hw _ (List.mem_of_getElem? (i:=8) rfl)
theorem ow10 {Z:State} {a0:Array Value} (hw:HW a0 Z):(Jvm.Cond.arrayClass Jvm.ClassFile.FieldType.int).before a0 Z = true:=hw _ (List.mem_of_getElem? (i:=10) rfl)
theorem ow11 {Z:State} {a0:Array Value} (hw:HW a0 Z):(Jvm.Cond.classLink oLy (9:Nat) "java/util/ArrayList").before a0 Z = true:=hw _ (List.mem_of_getElem? (i:=11) rfl)
theorem ow12 {Z:State} {a0:Array Value} (hw:HW a0 Z):(Jvm.Cond.instantiable "java/util/ArrayList" (3:Nat)).before a0 Z = true:=hw _ (List.mem_of_getElem? (i:=12) rfl)
theorem ow13 {Z:State} {a0:Array Value} (hw:HW a0 Z):(Jvm.Cond.initialized "java/util/ArrayList").before a0 Z = true:=hw _ (List.mem_of_getElem? (i:=13) rfl)
theorem ow31 {Z:State} {a0:Array Value} (hw:HW a0 Z):(Jvm.Cond.lays "java/util/ArrayList" "java/util/AbstractList" "modCount" "I").before a0 Z = true:=hw _ (List.mem_of_getElem? (i:=31) rfl)
theorem ow34 {Z:State} {a0:Array Value} (hw:HW a0 Z):(Jvm.Cond.lays "java/util/ArrayList" "java/util/ArrayList" "elementData" "[Ljava/lang/Object;").before a0 Z = true:=hw _ (List.mem_of_getElem? (i:=34) rfl)
theorem ow59 {Z:State} {a0:Array Value} (hw:HW a0 Z):(Jvm.Cond.lays "java/util/ArrayList" "java/util/ArrayList" "size" "I").before a0 Z = true:=hw _ (List.mem_of_getElem? (i:=59) rfl)
theorem ow14 {Z:State} {a0:Array Value} (hw:HW a0 Z):(Jvm.Cond.methodLink oLy (11:Nat) mn2).before a0 Z = true:=hw _ (List.mem_of_getElem? (i:=14) rfl)
theorem ow17 {Z:State} {a0:Array Value} (hw:HW a0 Z):(Jvm.Cond.methodLink "java/util/ArrayList" (1:Nat) mn1).before a0 Z = true:=hw _ (List.mem_of_getElem? (i:=17) rfl)
theorem ow23 {Z:State} {a0:Array Value} (hw:HW a0 Z):(Jvm.Cond.methodLink "java/util/AbstractList" (1:Nat) mn0).before a0 Z = true:=hw _ (List.mem_of_getElem? (i:=23) rfl)
theorem ow29 {Z:State} {a0:Array Value} (hw:HW a0 Z):(Jvm.Cond.methodLink "java/util/AbstractCollection" (1:Nat) ({ cls:=oOb,name:="<init>",desc:="()V" }:Jvm.MethodName)).before a0 Z = true:=hw _ (List.mem_of_getElem? (i:=29) rfl)
theorem ow28 {Z:State} {a0:Array Value} (hw:HW a0 Z):(Jvm.Cond.code mn0 jdk_22_method_1_code (1:Nat) (Option.none:Option Jvm.ClassFile.FieldType)).before a0 Z = true:=hw _ (List.mem_of_getElem? (i:=28) rfl)
theorem ow27 {Z:State} {a0:Array Value} (hw:HW a0 Z):(Jvm.Cond.initialized "java/util/AbstractCollection").before a0 Z = true:=hw _ (List.mem_of_getElem? (i:=27) rfl)
theorem ow24 {Z:State} {a0:Array Value} (hw:HW a0 Z):(Jvm.Cond.instanceMethod mn0).before a0 Z = true:=hw _ (List.mem_of_getElem? (i:=24) rfl)
theorem ow30 {Z:State} {a0:Array Value} (hw:HW a0 Z):(Jvm.Cond.fieldLink "java/util/AbstractList" (7:Nat) "java/util/AbstractList" "modCount" "I").before a0 Z = true:=hw _ (List.mem_of_getElem? (i:=30) rfl)
theorem sn_34_31 {Z:State} {a0:Array Value} (hw:HW a0 Z):Jvm.RoadKit.slotOf Z "java/util/ArrayList" "elementData" "[Ljava/lang/Object;"≠Jvm.RoadKit.slotOf Z "java/util/AbstractList" "modCount" "I":=slot_ne (Or.inl (ow34 hw)) (Or.inl (ow31 hw)) (by decide) (t:=(.array (.object oOb))) (t':=.int) (by decide) (by decide)
theorem sn_59_31 {Z:State} {a0:Array Value} (hw:HW a0 Z):Jvm.RoadKit.slotOf Z "java/util/ArrayList" "size" "I"≠Jvm.RoadKit.slotOf Z "java/util/AbstractList" "modCount" "I":=slot_ne (Or.inl (ow59 hw)) (Or.inl (ow31 hw)) (by decide) (t:=.int) (t':=.int) (by decide) (by decide)
theorem ow22 {Z:State} {a0:Array Value} (hw:HW a0 Z):(Jvm.Cond.code mn1 jdk_39_method_1_code (1:Nat) (Option.none:Option Jvm.ClassFile.FieldType)).before a0 Z = true:=hw _ (List.mem_of_getElem? (i:=22) rfl)
theorem ow21 {Z:State} {a0:Array Value} (hw:HW a0 Z):(Jvm.Cond.initialized "java/util/AbstractList").before a0 Z = true:=hw _ (List.mem_of_getElem? (i:=21) rfl)
theorem ow18 {Z:State} {a0:Array Value} (hw:HW a0 Z):(Jvm.Cond.instanceMethod mn1).before a0 Z = true:=hw _ (List.mem_of_getElem? (i:=18) rfl)
theorem ow32 {Z:State} {a0:Array Value} (hw:HW a0 Z):(Jvm.Cond.fieldLink "java/util/ArrayList" (39:Nat) "java/util/ArrayList" "DEFAULTCAPACITY_EMPTY_ELEMENTDATA" "[Ljava/lang/Object;").before a0 Z = true:=hw _ (List.mem_of_getElem? (i:=32) rfl)
theorem ow33 {Z:State} {a0:Array Value} (hw:HW a0 Z):(Jvm.Cond.fieldLink "java/util/ArrayList" (9:Nat) "java/util/ArrayList" "elementData" "[Ljava/lang/Object;").before a0 Z = true:=hw _ (List.mem_of_getElem? (i:=33) rfl)
theorem sn_31_34 {Z:State} {a0:Array Value} (hw:HW a0 Z):Jvm.RoadKit.slotOf Z "java/util/AbstractList" "modCount" "I"≠Jvm.RoadKit.slotOf Z "java/util/ArrayList" "elementData" "[Ljava/lang/Object;":=slot_ne (Or.inl (ow31 hw)) (Or.inl (ow34 hw)) (by decide) (t:=.int) (t':=(.array (.object oOb))) (by decide) (by decide)
theorem sn_59_34 {Z:State} {a0:Array Value} (hw:HW a0 Z):Jvm.RoadKit.slotOf Z "java/util/ArrayList" "size" "I"≠Jvm.RoadKit.slotOf Z "java/util/ArrayList" "elementData" "[Ljava/lang/Object;":=slot_ne (Or.inl (ow59 hw)) (Or.inl (ow34 hw)) (by decide) (t:=.int) (t':=(.array (.object oOb))) (by decide) (by decide)
theorem ow16 {Z:State} {a0:Array Value} (hw:HW a0 Z):(Jvm.Cond.code mn2 jdk_38_method_2_code (1:Nat) (Option.none:Option Jvm.ClassFile.FieldType)).before a0 Z = true:=hw _ (List.mem_of_getElem? (i:=16) rfl)
theorem ow15 {Z:State} {a0:Array Value} (hw:HW a0 Z):(Jvm.Cond.instanceMethod mn2).before a0 Z = true:=hw _ (List.mem_of_getElem? (i:=15) rfl)
theorem ow35 {Z:State} {a0:Array Value} (hw:HW a0 Z):(Jvm.Cond.methodLink oLy (12:Nat) mn9).before a0 Z = true:=hw _ (List.mem_of_getElem? (i:=35) rfl)
theorem ow38 {Z:State} {a0:Array Value} (hw:HW a0 Z):(Jvm.Cond.methodLink oLy (88:Nat) ({ cls:="[I",name:="clone",desc:="()Ljava/lang/Object;" }:Jvm.MethodName)).before a0 Z = true:=hw _ (List.mem_of_getElem? (i:=38) rfl)
theorem ow39 {Z:State} {a0:Array Value} (hw:HW a0 Z):(Jvm.Cond.sameMethod "[I" oOb "clone" "()Ljava/lang/Object;").before a0 Z = true:=hw _ (List.mem_of_getElem? (i:=39) rfl)
theorem ow43 {Z:State} {a0:Array Value} (hw:HW a0 Z):(Jvm.Cond.native ({ cls:=oOb,name:="clone",desc:="()Ljava/lang/Object;" }:Jvm.MethodName)).before a0 Z = true:=hw _ (List.mem_of_getElem? (i:=43) rfl)
theorem ow41 {Z:State} {a0:Array Value} (hw:HW a0 Z):(Jvm.Cond.instanceMethod ({ cls:=oOb,name:="clone",desc:="()Ljava/lang/Object;" }:Jvm.MethodName)).before a0 Z = true:=hw _ (List.mem_of_getElem? (i:=41) rfl)
theorem ow42 {Z:State} {a0:Array Value} (hw:HW a0 Z):(Jvm.Cond.selects "[I" ({ cls:="[I",name:="clone",desc:="()Ljava/lang/Object;" }:Jvm.MethodName) ({ cls:=oOb,name:="clone",desc:="()Ljava/lang/Object;" }:Jvm.MethodName)).before a0 Z = true:=hw _ (List.mem_of_getElem? (i:=42) rfl)
theorem ow44 {Z:State} {a0:Array Value} (hw:HW a0 Z):(Jvm.Cond.castable "[I" "java/lang/Cloneable").before a0 Z = true:=hw _ (List.mem_of_getElem? (i:=44) rfl)
theorem ow45 {Z:State} {a0:Array Value} (hw:HW a0 Z):(Jvm.Cond.classLink oLy (40:Nat) "[I").before a0 Z = true:=hw _ (List.mem_of_getElem? (i:=45) rfl)
theorem ow47 {Z:State} {a0:Array Value} (hw:HW a0 Z):(Jvm.Cond.methodLink oLy (92:Nat) mn8).before a0 Z = true:=hw _ (List.mem_of_getElem? (i:=47) rfl)
theorem ow56 {Z:State} {a0:Array Value} (hw:HW a0 Z):(Jvm.Cond.fieldLink "java/util/ArrayList" (63:Nat) "java/util/ArrayList" "modCount" "I").before a0 Z = true:=hw _ (List.mem_of_getElem? (i:=56) rfl)
theorem ow57 {Z:State} {a0:Array Value} (hw:HW a0 Z):(Jvm.Cond.sameField "java/util/ArrayList" "java/util/AbstractList" "modCount" "I").before a0 Z = true:=hw _ (List.mem_of_getElem? (i:=57) rfl)
theorem ow58 {Z:State} {a0:Array Value} (hw:HW a0 Z):(Jvm.Cond.fieldLink "java/util/ArrayList" (48:Nat) "java/util/ArrayList" "size" "I").before a0 Z = true:=hw _ (List.mem_of_getElem? (i:=58) rfl)
abbrev fE7_9 (k:Nat)(v:Value):Nat × Nat × String × String × String × Value:=(k,9,"java/util/ArrayList","elementData","[Ljava/lang/Object;",v)
abbrev fE7_48 (k:Nat)(v:Value):Nat × Nat × String × String × String × Value:=(k,48,"java/util/ArrayList","size","I",v)
theorem ow60 {Z:State} {a0:Array Value} (hw:HW a0 Z):(Jvm.Cond.methodLink "java/util/ArrayList" (131:Nat) mn6).before a0 Z = true:=hw _ (List.mem_of_getElem? (i:=60) rfl)
theorem ow65 {Z:State} {a0:Array Value} (hw:HW a0 Z):(Jvm.Cond.methodLink "java/util/ArrayList" (129:Nat) mn5).before a0 Z = true:=hw _ (List.mem_of_getElem? (i:=65) rfl)
abbrev fE9_48 (k:Nat)(v:Value):Nat × Nat × String × String × String × Value:=(k,48,"java/util/ArrayList","size","I",v)
theorem ow70 {Z:State} {a0:Array Value} (hw:HW a0 Z):(Jvm.Cond.methodLink "java/util/ArrayList" (69:Nat) mn4).before a0 Z = true:=hw _ (List.mem_of_getElem? (i:=70) rfl)
abbrev fE10_9 (k:Nat)(v:Value):Nat × Nat × String × String × String × Value:=(k,9,"java/util/ArrayList","elementData","[Ljava/lang/Object;",v)
theorem ow75 {Z:State} {a0:Array Value} (hw:HW a0 Z):(Jvm.Cond.methodLink "java/util/ArrayList" (79:Nat) mn3).before a0 Z = true:=hw _ (List.mem_of_getElem? (i:=75) rfl)
theorem ow78 {Z:State} {a0:Array Value} (hw:HW a0 Z):(Jvm.Cond.code mn3 jdk_29_method_65_code (2:Nat) (Option.some Jvm.ClassFile.FieldType.int)).before a0 Z = true:=hw _ (List.mem_of_getElem? (i:=78) rfl)
theorem ow77 {Z:State} {a0:Array Value} (hw:HW a0 Z):(Jvm.Cond.initialized "java/lang/Math").before a0 Z = true:=hw _ (List.mem_of_getElem? (i:=77) rfl)
theorem ow76 {Z:State} {a0:Array Value} (hw:HW a0 Z):(Jvm.Cond.static mn3).before a0 Z = true:=hw _ (List.mem_of_getElem? (i:=76) rfl)
theorem ow79 {Z:State} {a0:Array Value} (hw:HW a0 Z):(Jvm.Cond.classLink "java/util/ArrayList" (7:Nat) oOb).before a0 Z = true:=hw _ (List.mem_of_getElem? (i:=79) rfl)
theorem ow80 {Z:State} {a0:Array Value} (hw:HW a0 Z):(Jvm.Cond.arrayOver (Jvm.ClassFile.FieldType.object oOb)).before a0 Z = true:=hw _ (List.mem_of_getElem? (i:=80) rfl)
def own_ls0:List Value:=[.null,.null,.null,.null,.null,.null,.null,.null,.null,.null]
theorem ow74 {Z:State} {a0:Array Value} (hw:HW a0 Z):(Jvm.Cond.code mn4 jdk_38_method_6_code (4:Nat) (Option.some (Jvm.ClassFile.FieldType.array (Jvm.ClassFile.FieldType.object oOb)))).before a0 Z = true:=hw _ (List.mem_of_getElem? (i:=74) rfl)
theorem ow71 {Z:State} {a0:Array Value} (hw:HW a0 Z):(Jvm.Cond.instanceMethod mn4).before a0 Z = true:=hw _ (List.mem_of_getElem? (i:=71) rfl)
theorem ow73 {Z:State} {a0:Array Value} (hw:HW a0 Z):(Jvm.Cond.selects "java/util/ArrayList" mn4 mn4).before a0 Z = true:=hw _ (List.mem_of_getElem? (i:=73) rfl)
theorem ow72 {Z:State} {a0:Array Value} (hw:HW a0 Z):(Jvm.Cond.privateMethod mn4).before a0 Z = true:=hw _ (List.mem_of_getElem? (i:=72) rfl)
theorem ow69 {Z:State} {a0:Array Value} (hw:HW a0 Z):(Jvm.Cond.code mn5 jdk_38_method_7_code (1:Nat) (Option.some (Jvm.ClassFile.FieldType.array (Jvm.ClassFile.FieldType.object oOb)))).before a0 Z = true:=hw _ (List.mem_of_getElem? (i:=69) rfl)
theorem ow66 {Z:State} {a0:Array Value} (hw:HW a0 Z):(Jvm.Cond.instanceMethod mn5).before a0 Z = true:=hw _ (List.mem_of_getElem? (i:=66) rfl)
theorem ow68 {Z:State} {a0:Array Value} (hw:HW a0 Z):(Jvm.Cond.selects "java/util/ArrayList" mn5 mn5).before a0 Z = true:=hw _ (List.mem_of_getElem? (i:=68) rfl)
theorem ow67 {Z:State} {a0:Array Value} (hw:HW a0 Z):(Jvm.Cond.privateMethod mn5).before a0 Z = true:=hw _ (List.mem_of_getElem? (i:=67) rfl)
theorem ow81 {Z:State} {a0:Array Value} (hw:HW a0 Z):(Jvm.Cond.castable "[I" oOb).before a0 Z = true:=hw _ (List.mem_of_getElem? (i:=81) rfl)
theorem sn_31_59 {Z:State} {a0:Array Value} (hw:HW a0 Z):Jvm.RoadKit.slotOf Z "java/util/AbstractList" "modCount" "I"≠Jvm.RoadKit.slotOf Z "java/util/ArrayList" "size" "I":=slot_ne (Or.inl (ow31 hw)) (Or.inl (ow59 hw)) (by decide) (t:=.int) (t':=.int) (by decide) (by decide)
theorem sn_34_59 {Z:State} {a0:Array Value} (hw:HW a0 Z):Jvm.RoadKit.slotOf Z "java/util/ArrayList" "elementData" "[Ljava/lang/Object;"≠Jvm.RoadKit.slotOf Z "java/util/ArrayList" "size" "I":=slot_ne (Or.inl (ow34 hw)) (Or.inl (ow59 hw)) (by decide) (t:=(.array (.object oOb))) (t':=.int) (by decide) (by decide)
theorem ow64 {Z:State} {a0:Array Value} (hw:HW a0 Z):(Jvm.Cond.code mn6 jdk_38_method_24_code (4:Nat) (Option.none:Option Jvm.ClassFile.FieldType)).before a0 Z = true:=hw _ (List.mem_of_getElem? (i:=64) rfl)
theorem ow61 {Z:State} {a0:Array Value} (hw:HW a0 Z):(Jvm.Cond.instanceMethod mn6).before a0 Z = true:=hw _ (List.mem_of_getElem? (i:=61) rfl)
theorem ow63 {Z:State} {a0:Array Value} (hw:HW a0 Z):(Jvm.Cond.selects "java/util/ArrayList" mn6 mn6).before a0 Z = true:=hw _ (List.mem_of_getElem? (i:=63) rfl)
theorem ow62 {Z:State} {a0:Array Value} (hw:HW a0 Z):(Jvm.Cond.privateMethod mn6).before a0 Z = true:=hw _ (List.mem_of_getElem? (i:=62) rfl)
theorem ow55 {Z:State} {a0:Array Value} (hw:HW a0 Z):(Jvm.Cond.code mn7 jdk_38_method_25_code (2:Nat) (Option.some Jvm.ClassFile.FieldType.boolean)).before a0 Z = true:=hw _ (List.mem_of_getElem? (i:=55) rfl)
theorem ow48 {Z:State} {a0:Array Value} (hw:HW a0 Z):(Jvm.Cond.declares mn8).before a0 Z = true:=hw _ (List.mem_of_getElem? (i:=48) rfl)
theorem ow49 {Z:State} {a0:Array Value} (hw:HW a0 Z):(Jvm.Cond.interfaceMethod "java/util/List" "java/util/List" "add" "(Ljava/lang/Object;)Z").before a0 Z = true:=hw _ (List.mem_of_getElem? (i:=49) rfl)
theorem ow50 {Z:State} {a0:Array Value} (hw:HW a0 Z):(Jvm.Cond.selects "java/util/ArrayList" mn8 mn7).before a0 Z = true:=hw _ (List.mem_of_getElem? (i:=50) rfl)
theorem ow51 {Z:State} {a0:Array Value} (hw:HW a0 Z):(Jvm.Cond.instanceMethod mn7).before a0 Z = true:=hw _ (List.mem_of_getElem? (i:=51) rfl)
theorem ow52 {Z:State} {a0:Array Value} (hw:HW a0 Z):(Jvm.Cond.publicMethod mn7).before a0 Z = true:=hw _ (List.mem_of_getElem? (i:=52) rfl)
theorem ow53 {Z:State} {a0:Array Value} (hw:HW a0 Z):(Jvm.Cond.unhidden "java/util/ArrayList" "add" "(Ljava/lang/Object;)Z").before a0 Z = true:=hw _ (List.mem_of_getElem? (i:=53) rfl)
theorem ow54 {Z:State} {a0:Array Value} (hw:HW a0 Z):(Jvm.Cond.castable "java/util/ArrayList" "java/util/List").before a0 Z = true:=hw _ (List.mem_of_getElem? (i:=54) rfl)
theorem ow37 {Z:State} {a0:Array Value} (hw:HW a0 Z):(Jvm.Cond.code mn9 prog_28_method_10_code (7:Nat) (Option.none:Option Jvm.ClassFile.FieldType)).before a0 Z = true:=hw _ (List.mem_of_getElem? (i:=37) rfl)
theorem ow36 {Z:State} {a0:Array Value} (hw:HW a0 Z):(Jvm.Cond.static mn9).before a0 Z = true:=hw _ (List.mem_of_getElem? (i:=36) rfl)
theorem ow82 {Z:State} {a0:Array Value} (hw:HW a0 Z):(Jvm.Cond.methodLink oLy (18:Nat) mn11).before a0 Z = true:=hw _ (List.mem_of_getElem? (i:=82) rfl)
abbrev fE12_48 (k:Nat)(v:Value):Nat × Nat × String × String × String × Value:=(k,48,"java/util/ArrayList","size","I",v)
theorem ow89 {Z:State} {a0:Array Value} (hw:HW a0 Z):(Jvm.Cond.code mn10 jdk_38_method_8_code (1:Nat) (Option.some Jvm.ClassFile.FieldType.int)).before a0 Z = true:=hw _ (List.mem_of_getElem? (i:=89) rfl)
theorem ow83 {Z:State} {a0:Array Value} (hw:HW a0 Z):(Jvm.Cond.declares mn11).before a0 Z = true:=hw _ (List.mem_of_getElem? (i:=83) rfl)
theorem ow84 {Z:State} {a0:Array Value} (hw:HW a0 Z):(Jvm.Cond.interfaceMethod "java/util/List" "java/util/List" "size" "()I").before a0 Z = true:=hw _ (List.mem_of_getElem? (i:=84) rfl)
theorem ow85 {Z:State} {a0:Array Value} (hw:HW a0 Z):(Jvm.Cond.selects "java/util/ArrayList" mn11 mn10).before a0 Z = true:=hw _ (List.mem_of_getElem? (i:=85) rfl)
theorem ow86 {Z:State} {a0:Array Value} (hw:HW a0 Z):(Jvm.Cond.instanceMethod mn10).before a0 Z = true:=hw _ (List.mem_of_getElem? (i:=86) rfl)
theorem ow87 {Z:State} {a0:Array Value} (hw:HW a0 Z):(Jvm.Cond.publicMethod mn10).before a0 Z = true:=hw _ (List.mem_of_getElem? (i:=87) rfl)
theorem ow88 {Z:State} {a0:Array Value} (hw:HW a0 Z):(Jvm.Cond.unhidden "java/util/ArrayList" "size" "()I").before a0 Z = true:=hw _ (List.mem_of_getElem? (i:=88) rfl)
theorem ow90 {Z:State} {a0:Array Value} (hw:HW a0 Z):(Jvm.Cond.classLink oLy (24:Nat) "[[I").before a0 Z = true:=hw _ (List.mem_of_getElem? (i:=90) rfl)
theorem ow91 {Z:State} {a0:Array Value} (hw:HW a0 Z):(Jvm.Cond.arrayOver (Jvm.ClassFile.FieldType.array Jvm.ClassFile.FieldType.int)).before a0 Z = true:=hw _ (List.mem_of_getElem? (i:=91) rfl)
theorem ow92 {Z:State} {a0:Array Value} (hw:HW a0 Z):(Jvm.Cond.fieldLink oLy (26:Nat) oLy "fromShifts" "[[I").before a0 Z = true:=hw _ (List.mem_of_getElem? (i:=92) rfl)
theorem ow94 {Z:State} {a0:Array Value} (hw:HW a0 Z):(Jvm.Cond.fieldLink oLy (29:Nat) oLy "widths" "[[I").before a0 Z = true:=hw _ (List.mem_of_getElem? (i:=94) rfl)
theorem sn_95_93 {Z:State} {a0:Array Value} (hw:HW a0 Z):Jvm.RoadKit.slotOf Z oLy "widths" "[[I"≠Jvm.RoadKit.slotOf Z oLy "fromShifts" "[[I":=slot_ne (Or.inr (ow95 hw)) (Or.inr (ow93 hw)) (by decide) (t:=(.array (.array .int))) (t':=(.array (.array .int))) (by decide) (by decide)
theorem ow96 {Z:State} {a0:Array Value} (hw:HW a0 Z):(Jvm.Cond.fieldLink oLy (32:Nat) oLy "prefixes" "[I").before a0 Z = true:=hw _ (List.mem_of_getElem? (i:=96) rfl)
theorem sn_97_93 {Z:State} {a0:Array Value} (hw:HW a0 Z):Jvm.RoadKit.slotOf Z oLy "prefixes" "[I"≠Jvm.RoadKit.slotOf Z oLy "fromShifts" "[[I":=slot_ne (Or.inr (ow97 hw)) (Or.inr (ow93 hw)) (by decide) (t:=(.array .int)) (t':=(.array (.array .int))) (by decide) (by decide)
theorem sn_97_95 {Z:State} {a0:Array Value} (hw:HW a0 Z):Jvm.RoadKit.slotOf Z oLy "prefixes" "[I"≠Jvm.RoadKit.slotOf Z oLy "widths" "[[I":=slot_ne (Or.inr (ow97 hw)) (Or.inr (ow95 hw)) (by decide) (t:=(.array .int)) (t':=(.array (.array .int))) (by decide) (by decide)
theorem ow98 {Z:State} {a0:Array Value} (hw:HW a0 Z):(Jvm.Cond.arrayClass Jvm.ClassFile.FieldType.boolean).before a0 Z = true:=hw _ (List.mem_of_getElem? (i:=98) rfl)
theorem ow99 {Z:State} {a0:Array Value} (hw:HW a0 Z):(Jvm.Cond.methodLink oLy (36:Nat) mn16).before a0 Z = true:=hw _ (List.mem_of_getElem? (i:=99) rfl)
abbrev fE13_48 (k:Nat)(v:Value):Nat × Nat × String × String × String × Value:=(k,48,"java/util/ArrayList","size","I",v)
theorem ow107 {Z:State} {a0:Array Value} (hw:HW a0 Z):(Jvm.Cond.methodLink "java/util/ArrayList" (118:Nat) mn13).before a0 Z = true:=hw _ (List.mem_of_getElem? (i:=107) rfl)
theorem ow111 {Z:State} {a0:Array Value} (hw:HW a0 Z):(Jvm.Cond.methodLink "java/util/Objects" (105:Nat) mn12).before a0 Z = true:=hw _ (List.mem_of_getElem? (i:=111) rfl)
theorem ow114 {Z:State} {a0:Array Value} (hw:HW a0 Z):(Jvm.Cond.code mn12 jdk_41_method_11_code (3:Nat) (Option.some Jvm.ClassFile.FieldType.int)).before a0 Z = true:=hw _ (List.mem_of_getElem? (i:=114) rfl)
theorem ow113 {Z:State} {a0:Array Value} (hw:HW a0 Z):(Jvm.Cond.initialized "jdk/internal/util/Preconditions").before a0 Z = true:=hw _ (List.mem_of_getElem? (i:=113) rfl)
theorem ow112 {Z:State} {a0:Array Value} (hw:HW a0 Z):(Jvm.Cond.static mn12).before a0 Z = true:=hw _ (List.mem_of_getElem? (i:=112) rfl)
theorem ow110 {Z:State} {a0:Array Value} (hw:HW a0 Z):(Jvm.Cond.code mn13 jdk_31_method_17_code (2:Nat) (Option.some Jvm.ClassFile.FieldType.int)).before a0 Z = true:=hw _ (List.mem_of_getElem? (i:=110) rfl)
theorem ow109 {Z:State} {a0:Array Value} (hw:HW a0 Z):(Jvm.Cond.initialized "java/util/Objects").before a0 Z = true:=hw _ (List.mem_of_getElem? (i:=109) rfl)
theorem ow108 {Z:State} {a0:Array Value} (hw:HW a0 Z):(Jvm.Cond.static mn13).before a0 Z = true:=hw _ (List.mem_of_getElem? (i:=108) rfl)
theorem ow115 {Z:State} {a0:Array Value} (hw:HW a0 Z):(Jvm.Cond.methodLink "java/util/ArrayList" (123:Nat) mn14).before a0 Z = true:=hw _ (List.mem_of_getElem? (i:=115) rfl)
abbrev fE16_9 (k:Nat)(v:Value):Nat × Nat × String × String × String × Value:=(k,9,"java/util/ArrayList","elementData","[Ljava/lang/Object;",v)
theorem ow119 {Z:State} {a0:Array Value} (hw:HW a0 Z):(Jvm.Cond.code mn14 jdk_38_method_18_code (2:Nat) (Option.some (Jvm.ClassFile.FieldType.object oOb))).before a0 Z = true:=hw _ (List.mem_of_getElem? (i:=119) rfl)
theorem ow116 {Z:State} {a0:Array Value} (hw:HW a0 Z):(Jvm.Cond.declares mn14).before a0 Z = true:=hw _ (List.mem_of_getElem? (i:=116) rfl)
theorem ow118 {Z:State} {a0:Array Value} (hw:HW a0 Z):(Jvm.Cond.selects "java/util/ArrayList" mn14 mn14).before a0 Z = true:=hw _ (List.mem_of_getElem? (i:=118) rfl)
theorem ow117 {Z:State} {a0:Array Value} (hw:HW a0 Z):(Jvm.Cond.instanceMethod mn14).before a0 Z = true:=hw _ (List.mem_of_getElem? (i:=117) rfl)
theorem ow106 {Z:State} {a0:Array Value} (hw:HW a0 Z):(Jvm.Cond.code mn15 jdk_38_method_20_code (2:Nat) (Option.some (Jvm.ClassFile.FieldType.object oOb))).before a0 Z = true:=hw _ (List.mem_of_getElem? (i:=106) rfl)
theorem ow100 {Z:State} {a0:Array Value} (hw:HW a0 Z):(Jvm.Cond.declares mn16).before a0 Z = true:=hw _ (List.mem_of_getElem? (i:=100) rfl)
theorem ow101 {Z:State} {a0:Array Value} (hw:HW a0 Z):(Jvm.Cond.interfaceMethod "java/util/List" "java/util/List" "get" "(I)Ljava/lang/Object;").before a0 Z = true:=hw _ (List.mem_of_getElem? (i:=101) rfl)
theorem ow102 {Z:State} {a0:Array Value} (hw:HW a0 Z):(Jvm.Cond.selects "java/util/ArrayList" mn16 mn15).before a0 Z = true:=hw _ (List.mem_of_getElem? (i:=102) rfl)
theorem ow103 {Z:State} {a0:Array Value} (hw:HW a0 Z):(Jvm.Cond.instanceMethod mn15).before a0 Z = true:=hw _ (List.mem_of_getElem? (i:=103) rfl)
theorem ow104 {Z:State} {a0:Array Value} (hw:HW a0 Z):(Jvm.Cond.publicMethod mn15).before a0 Z = true:=hw _ (List.mem_of_getElem? (i:=104) rfl)
theorem ow105 {Z:State} {a0:Array Value} (hw:HW a0 Z):(Jvm.Cond.unhidden "java/util/ArrayList" "get" "(I)Ljava/lang/Object;").before a0 Z = true:=hw _ (List.mem_of_getElem? (i:=105) rfl)
abbrev fE1_26 (k:Nat)(v:Value):Nat × Nat × String × String × String × Value:=(k,26,oLy,"fromShifts","[[I",v)
abbrev fE1_29 (k:Nat)(v:Value):Nat × Nat × String × String × String × Value:=(k,29,oLy,"widths","[[I",v)
abbrev fE1_32 (k:Nat)(v:Value):Nat × Nat × String × String × String × Value:=(k,32,oLy,"prefixes","[I",v)
theorem sn_93_95 {Z:State} {a0:Array Value} (hw:HW a0 Z):Jvm.RoadKit.slotOf Z oLy "fromShifts" "[[I"≠Jvm.RoadKit.slotOf Z oLy "widths" "[[I":=slot_ne (Or.inr (ow93 hw)) (Or.inr (ow95 hw)) (by decide) (t:=(.array (.array .int))) (t':=(.array (.array .int))) (by decide) (by decide)
theorem sn_93_97 {Z:State} {a0:Array Value} (hw:HW a0 Z):Jvm.RoadKit.slotOf Z oLy "fromShifts" "[[I"≠Jvm.RoadKit.slotOf Z oLy "prefixes" "[I":=slot_ne (Or.inr (ow93 hw)) (Or.inr (ow97 hw)) (by decide) (t:=(.array (.array .int))) (t':=(.array .int)) (by decide) (by decide)
theorem sn_95_97 {Z:State} {a0:Array Value} (hw:HW a0 Z):Jvm.RoadKit.slotOf Z oLy "widths" "[[I"≠Jvm.RoadKit.slotOf Z oLy "prefixes" "[I":=slot_ne (Or.inr (ow95 hw)) (Or.inr (ow97 hw)) (by decide) (t:=(.array (.array .int))) (t':=(.array .int)) (by decide) (by decide)
theorem ow120 {Z:State} {a0:Array Value} (hw:HW a0 Z):(Jvm.Cond.classLink oLy (41:Nat) "[J").before a0 Z = true:=hw _ (List.mem_of_getElem? (i:=120) rfl)
theorem ow121 {Z:State} {a0:Array Value} (hw:HW a0 Z):(Jvm.Cond.arrayOver (Jvm.ClassFile.FieldType.array Jvm.ClassFile.FieldType.long)).before a0 Z = true:=hw _ (List.mem_of_getElem? (i:=121) rfl)
theorem ow122 {Z:State} {a0:Array Value} (hw:HW a0 Z):(Jvm.Cond.fieldLink oLy (43:Nat) oLy "earlierPrefixes" "[[J").before a0 Z = true:=hw _ (List.mem_of_getElem? (i:=122) rfl)
theorem sn_123_93 {Z:State} {a0:Array Value} (hw:HW a0 Z):Jvm.RoadKit.slotOf Z oLy "earlierPrefixes" "[[J"≠Jvm.RoadKit.slotOf Z oLy "fromShifts" "[[I":=slot_ne (Or.inr (ow123 hw)) (Or.inr (ow93 hw)) (by decide) (t:=(.array (.array .long))) (t':=(.array (.array .int))) (by decide) (by decide)
theorem sn_123_95 {Z:State} {a0:Array Value} (hw:HW a0 Z):Jvm.RoadKit.slotOf Z oLy "earlierPrefixes" "[[J"≠Jvm.RoadKit.slotOf Z oLy "widths" "[[I":=slot_ne (Or.inr (ow123 hw)) (Or.inr (ow95 hw)) (by decide) (t:=(.array (.array .long))) (t':=(.array (.array .int))) (by decide) (by decide)
theorem sn_123_97 {Z:State} {a0:Array Value} (hw:HW a0 Z):Jvm.RoadKit.slotOf Z oLy "earlierPrefixes" "[[J"≠Jvm.RoadKit.slotOf Z oLy "prefixes" "[I":=slot_ne (Or.inr (ow123 hw)) (Or.inr (ow97 hw)) (by decide) (t:=(.array (.array .long))) (t':=(.array .int)) (by decide) (by decide)
abbrev fE1_43 (k:Nat)(v:Value):Nat × Nat × String × String × String × Value:=(k,43,oLy,"earlierPrefixes","[[J",v)
theorem ow124 {Z:State} {a0:Array Value} (hw:HW a0 Z):(Jvm.Cond.arrayClass Jvm.ClassFile.FieldType.long).before a0 Z = true:=hw _ (List.mem_of_getElem? (i:=124) rfl)
theorem sn_93_123 {Z:State} {a0:Array Value} (hw:HW a0 Z):Jvm.RoadKit.slotOf Z oLy "fromShifts" "[[I"≠Jvm.RoadKit.slotOf Z oLy "earlierPrefixes" "[[J":=slot_ne (Or.inr (ow93 hw)) (Or.inr (ow123 hw)) (by decide) (t:=(.array (.array .int))) (t':=(.array (.array .long))) (by decide) (by decide)
theorem sn_95_123 {Z:State} {a0:Array Value} (hw:HW a0 Z):Jvm.RoadKit.slotOf Z oLy "widths" "[[I"≠Jvm.RoadKit.slotOf Z oLy "earlierPrefixes" "[[J":=slot_ne (Or.inr (ow95 hw)) (Or.inr (ow123 hw)) (by decide) (t:=(.array (.array .int))) (t':=(.array (.array .long))) (by decide) (by decide)
theorem ow6 {Z:State} {a0:Array Value} (hw:HW a0 Z):(Jvm.Cond.code mn17 prog_28_method_1_code (13:Nat) (Option.none:Option Jvm.ClassFile.FieldType)).before a0 Z = true:=hw _ (List.mem_of_getElem? (i:=6) rfl)
theorem ow5 {Z:State} {a0:Array Value} (hw:HW a0 Z):(Jvm.Cond.instanceMethod mn17).before a0 Z = true:=hw _ (List.mem_of_getElem? (i:=5) rfl)
theorem ow126 {Z:State} {a0:Array Value} (hw:HW a0 Z):(Jvm.Cond.methodLink "com/example/libakin/libakin/simhash/LayoutKeyPinLaw" (13:Nat) mn18).before a0 Z = true:=hw _ (List.mem_of_getElem? (i:=126) rfl)
theorem ow131 {Z:State} {a0:Array Value} (hw:HW a0 Z):(Jvm.Cond.constantLong oLy (86:Nat) (-1:Int64)).before a0 Z = true:=hw _ (List.mem_of_getElem? (i:=131) rfl)
abbrev fE17_29 (k:Nat)(v:Value):Nat × Nat × String × String × String × Value:=(k,29,oLy,"widths","[[I",v)
abbrev fE17_26 (k:Nat)(v:Value):Nat × Nat × String × String × String × Value:=(k,26,oLy,"fromShifts","[[I",v)
theorem ow130 {Z:State} {a0:Array Value} (hw:HW a0 Z):(Jvm.Cond.code mn18 prog_28_method_6_code (9:Nat) (Option.some Jvm.ClassFile.FieldType.long)).before a0 Z = true:=hw _ (List.mem_of_getElem? (i:=130) rfl)
theorem ow127 {Z:State} {a0:Array Value} (hw:HW a0 Z):(Jvm.Cond.declares mn18).before a0 Z = true:=hw _ (List.mem_of_getElem? (i:=127) rfl)
theorem ow129 {Z:State} {a0:Array Value} (hw:HW a0 Z):(Jvm.Cond.selects oLy mn18 mn18).before a0 Z = true:=hw _ (List.mem_of_getElem? (i:=129) rfl)
theorem ow128 {Z:State} {a0:Array Value} (hw:HW a0 Z):(Jvm.Cond.instanceMethod mn18).before a0 Z = true:=hw _ (List.mem_of_getElem? (i:=128) rfl)
theorem ow132 {Z:State} {a0:Array Value} (hw:HW a0 Z):(Jvm.Cond.methodLink "com/example/libakin/libakin/simhash/LayoutKeyPinLaw" (17:Nat) mn19).before a0 Z = true:=hw _ (List.mem_of_getElem? (i:=132) rfl)
theorem ow135 {Z:State} {a0:Array Value} (hw:HW a0 Z):(Jvm.Cond.code mn19 method_3_code (12:Nat) (Option.some Jvm.ClassFile.FieldType.long)).before a0 Z = true:=hw _ (List.mem_of_getElem? (i:=135) rfl)
theorem ow134 {Z:State} {a0:Array Value} (hw:HW a0 Z):(Jvm.Cond.initialized "com/example/libakin/libakin/simhash/LayoutKeyPinLaw").before a0 Z = true:=hw _ (List.mem_of_getElem? (i:=134) rfl)
theorem ow133 {Z:State} {a0:Array Value} (hw:HW a0 Z):(Jvm.Cond.static mn19).before a0 Z = true:=hw _ (List.mem_of_getElem? (i:=133) rfl)
theorem ow136 {Z:State} {a0:Array Value} (hw:HW a0 Z):(Jvm.Cond.methodLink oLy (47:Nat) mn20).before a0 Z = true:=hw _ (List.mem_of_getElem? (i:=136) rfl)
abbrev fE19_32 (k:Nat)(v:Value):Nat × Nat × String × String × String × Value:=(k,32,oLy,"prefixes","[I",v)
abbrev fE19_29 (k:Nat)(v:Value):Nat × Nat × String × String × String × Value:=(k,29,oLy,"widths","[[I",v)
abbrev fE19_26 (k:Nat)(v:Value):Nat × Nat × String × String × String × Value:=(k,26,oLy,"fromShifts","[[I",v)
theorem ow139 {Z:State} {a0:Array Value} (hw:HW a0 Z):(Jvm.Cond.code mn20 prog_28_method_8_code (6:Nat) (Option.some Jvm.ClassFile.FieldType.long)).before a0 Z = true:=hw _ (List.mem_of_getElem? (i:=139) rfl)
theorem sn_97_123 {Z:State} {a0:Array Value} (hw:HW a0 Z):Jvm.RoadKit.slotOf Z oLy "prefixes" "[I"≠Jvm.RoadKit.slotOf Z oLy "earlierPrefixes" "[[J":=slot_ne (Or.inr (ow97 hw)) (Or.inr (ow123 hw)) (by decide) (t:=(.array .int)) (t':=(.array (.array .long))) (by decide) (by decide)
theorem ow137 {Z:State} {a0:Array Value} (hw:HW a0 Z):(Jvm.Cond.instanceMethod mn20).before a0 Z = true:=hw _ (List.mem_of_getElem? (i:=137) rfl)
theorem ow138 {Z:State} {a0:Array Value} (hw:HW a0 Z):(Jvm.Cond.privateMethod mn20).before a0 Z = true:=hw _ (List.mem_of_getElem? (i:=138) rfl)
theorem ow140 {Z:State} {a0:Array Value} (hw:HW a0 Z):(Jvm.Cond.methodLink oLy (51:Nat) mn18).before a0 Z = true:=hw _ (List.mem_of_getElem? (i:=140) rfl)
def own_ls1:List Value:=[vI 0,vI 0,vI 0,vI 0]
def own_ls2:List Value:=[vI 0,vI 22,vI 43,vI 64]
theorem ow142 {Z:State} {a0:Array Value} (hw:HW a0 Z):(Jvm.Cond.constantLong "com/example/libakin/libakin/simhash/LayoutKeyPinLaw" (23:Nat) (2097151:Int64)).before a0 Z = true:=hw _ (List.mem_of_getElem? (i:=142) rfl)
def own_ls3:List Value:=[vI 0,vI 0,vI 0,vI 0,vI 0]
def own_ls4:List Value:=[vI 0,vI 16,vI 32,vI 48,vI 64]
def own_ls5:List Value:=[vI 1,vI 1,vI 1,vI 0]
def own_ls6:List Value:=[vI 48,vI 32,vI 16,vI 0]
def own_ls7:List Value:=[vI 16,vI 16,vI 16,vI 16]
def own_ls8:List Value:=[vI 48,vI 0,vI 0,vI 0]
def own_ls9:List Value:=[vI 1,vI 1,vI 0,vI 1]
def own_ls10:List Value:=[vI 48,vI 32,vI 0,vI 16]
def own_ls11:List Value:=[vI 48,vI 48,vI 0,vI 0]
def own_ls12:List Value:=[vI 1,vI 0,vI 1,vI 1]
def own_ls13:List Value:=[vI 48,vI 16,vI 0,vI 32]
def own_ls14:List Value:=[vI 48,vI 48,vI 48,vI 0]
def own_ls15:List Value:=[vI 0,vI 1,vI 1,vI 1]
def own_ls16:List Value:=[vI 32,vI 16,vI 0,vI 48]
def own_ls17:List Value:=[vI 48,vI 48,vI 48,vI 48]
def own_ls18:List Value:=[.null,.null,.null,.null]
theorem ow141 {Z:State} {a0:Array Value} (hw:HW a0 Z):(Jvm.Cond.constantLong "com/example/libakin/libakin/simhash/LayoutKeyPinLaw" (25:Nat) (65535:Int64)).before a0 Z = true:=hw _ (List.mem_of_getElem? (i:=141) rfl)
section Run
variable {p : Program} {l : Launch} {e : Env} {R : Room} {s : State} {m : MethodId} {args : Array Value} {below : List Frame} {meth : Method} {c : Code} {T : State} {locs : List Loc} {cells slots cc nn : Nat}
abbrev own_R := Option (Nat × Array Slot × List Value)
variable {pc k n a b : Nat} {ls : Array Slot} {st : List Value} {r : Nat × Array Slot × List Value} {q : own_R}
def own_g (a b : Nat) (q : own_R) : own_R := bif Nat.beq a b then q else none
theorem own_g_ok (h : own_g a b q = some r) : a = b ∧ q = some r := by
  unfold own_g at h
  cases w : Nat.beq a b with
  | true => rw [w] at h; exact ⟨Nat.eq_of_beq_eq_true w, h⟩
  | false => rw [w] at h; exact nomatch h
def own_ldi (pc : Nat) (ls : Array Slot) (st : List Value) (k n : Nat) : own_R := match ls[k]? with
  | some (.val (.int v)) => some (pc + n, ls, (.int v) :: st)
  | _ => none
theorem own_ldi_ok (h : own_ldi pc ls st k n = some r) : ∃ v, ls[k]? = some (.val (.int v)) ∧ r = (pc + n, ls, (.int v) :: st) := by
  unfold own_ldi at h
  split at h
  · exact ⟨_, by assumption, (Option.some.inj h).symm⟩
  · exact nomatch h
def own_ldl (pc : Nat) (ls : Array Slot) (st : List Value) (k n : Nat) : own_R := match ls[k]? with
  | some (.val (.long v)) => some (pc + n, ls, (.long v) :: st)
  | _ => none
theorem own_ldl_ok (h : own_ldl pc ls st k n = some r) : ∃ v, ls[k]? = some (.val (.long v)) ∧ r = (pc + n, ls, (.long v) :: st) := by
  unfold own_ldl at h
  split at h
  · exact ⟨_, by assumption, (Option.some.inj h).symm⟩
  · exact nomatch h
def own_lda (pc : Nat) (ls : Array Slot) (st : List Value) (k n : Nat) : own_R := match ls[k]? with
  | some (.val (.ref v)) => some (pc + n, ls, (.ref v) :: st)
  | some (.val .null) => some (pc + n, ls, .null :: st)
  | _ => none
theorem own_lda_ok (h : own_lda pc ls st k n = some r) : ∃ v, ls[k]? = some (.val v) ∧ v.isRef = true ∧ r = (pc + n, ls, v :: st) := by
  unfold own_lda at h
  split at h
  · exact ⟨_, by assumption, rfl, (Option.some.inj h).symm⟩
  · exact ⟨_, by assumption, rfl, (Option.some.inj h).symm⟩
  · exact nomatch h
def own_sti (pc : Nat) (ls : Array Slot) (st : List Value) (k n : Nat) : own_R := match st with
  | (.int v) :: u => (match storeLocals ls k (.int v) with | some l' => some (pc + n, l', u) | none => none)
  | _ => none
theorem own_sti_ok (h : own_sti pc ls st k n = some r) : ∃ v u l', st = (.int v) :: u ∧ storeLocals ls k (.int v) = some l' ∧ r = (pc + n, l', u) := by
  unfold own_sti at h
  split at h
  · split at h
    · exact ⟨_, _, _, rfl, by assumption, (Option.some.inj h).symm⟩
    · exact nomatch h
  · exact nomatch h
def own_stl (pc : Nat) (ls : Array Slot) (st : List Value) (k n : Nat) : own_R := match st with
  | (.long v) :: u => (match storeLocals ls k (.long v) with | some l' => some (pc + n, l', u) | none => none)
  | _ => none
theorem own_stl_ok (h : own_stl pc ls st k n = some r) : ∃ v u l', st = (.long v) :: u ∧ storeLocals ls k (.long v) = some l' ∧ r = (pc + n, l', u) := by
  unfold own_stl at h
  split at h
  · split at h
    · exact ⟨_, _, _, rfl, by assumption, (Option.some.inj h).symm⟩
    · exact nomatch h
  · exact nomatch h
def own_sta (pc : Nat) (ls : Array Slot) (st : List Value) (k n : Nat) : own_R := match st with
  | (.ref v) :: u => (match storeLocals ls k (.ref v) with | some l' => some (pc + n, l', u) | none => none)
  | .null :: u => (match storeLocals ls k .null with | some l' => some (pc + n, l', u) | none => none)
  | _ => none
theorem own_sta_ok (h : own_sta pc ls st k n = some r) : ∃ v u l', st = v :: u ∧ v.isRef = true ∧ storeLocals ls k v = some l' ∧ r = (pc + n, l', u) := by
  unfold own_sta at h
  split at h
  · split at h
    · exact ⟨_, _, _, rfl, rfl, by assumption, (Option.some.inj h).symm⟩
    · exact nomatch h
  · split at h
    · exact ⟨_, _, _, rfl, rfl, by assumption, (Option.some.inj h).symm⟩
    · exact nomatch h
  · exact nomatch h
def own_bii (f : Int32 → Int32 → Int32) (pc : Nat) (ls : Array Slot) (st : List Value) : own_R := match st with
  | .int y :: .int x :: u => some (pc + 1, ls, .int (f x y) :: u)
  | _ => none
theorem own_bii_ok {f : Int32 → Int32 → Int32} (h : own_bii f pc ls st = some r) : ∃ x y u, st = .int y :: .int x :: u ∧ r = (pc + 1, ls, .int (f x y) :: u) := by
  unfold own_bii at h
  split at h
  · exact ⟨_, _, _, rfl, (Option.some.inj h).symm⟩
  · exact nomatch h
def own_bll (f : Int64 → Int64 → Int64) (pc : Nat) (ls : Array Slot) (st : List Value) : own_R := match st with
  | .long y :: .long x :: u => some (pc + 1, ls, .long (f x y) :: u)
  | _ => none
theorem own_bll_ok {f : Int64 → Int64 → Int64} (h : own_bll f pc ls st = some r) : ∃ x y u, st = .long y :: .long x :: u ∧ r = (pc + 1, ls, .long (f x y) :: u) := by
  unfold own_bll at h
  split at h
  · exact ⟨_, _, _, rfl, (Option.some.inj h).symm⟩
  · exact nomatch h
def own_bli (f : Int64 → Int32 → Int64) (pc : Nat) (ls : Array Slot) (st : List Value) : own_R := match st with
  | .int y :: .long x :: u => some (pc + 1, ls, .long (f x y) :: u)
  | _ => none
theorem own_bli_ok {f : Int64 → Int32 → Int64} (h : own_bli f pc ls st = some r) : ∃ x y u, st = .int y :: .long x :: u ∧ r = (pc + 1, ls, .long (f x y) :: u) := by
  unfold own_bli at h
  split at h
  · exact ⟨_, _, _, rfl, (Option.some.inj h).symm⟩
  · exact nomatch h
def own_bci (f : Int64 → Int64 → Int32) (pc : Nat) (ls : Array Slot) (st : List Value) : own_R := match st with
  | .long y :: .long x :: u => some (pc + 1, ls, .int (f x y) :: u)
  | _ => none
theorem own_bci_ok {f : Int64 → Int64 → Int32} (h : own_bci f pc ls st = some r) : ∃ x y u, st = .long y :: .long x :: u ∧ r = (pc + 1, ls, .int (f x y) :: u) := by
  unfold own_bci at h
  split at h
  · exact ⟨_, _, _, rfl, (Option.some.inj h).symm⟩
  · exact nomatch h
def own_uii (f : Int32 → Int32) (pc : Nat) (ls : Array Slot) (st : List Value) : own_R := match st with
  | .int x :: u => some (pc + 1, ls, .int (f x) :: u)
  | _ => none
theorem own_uii_ok {f : Int32 → Int32} (h : own_uii f pc ls st = some r) : ∃ x u, st = .int x :: u ∧ r = (pc + 1, ls, .int (f x) :: u) := by
  unfold own_uii at h
  split at h
  · exact ⟨_, _, rfl, (Option.some.inj h).symm⟩
  · exact nomatch h
def own_uil (f : Int32 → Int64) (pc : Nat) (ls : Array Slot) (st : List Value) : own_R := match st with
  | .int x :: u => some (pc + 1, ls, .long (f x) :: u)
  | _ => none
theorem own_uil_ok {f : Int32 → Int64} (h : own_uil f pc ls st = some r) : ∃ x u, st = .int x :: u ∧ r = (pc + 1, ls, .long (f x) :: u) := by
  unfold own_uil at h
  split at h
  · exact ⟨_, _, rfl, (Option.some.inj h).symm⟩
  · exact nomatch h
def own_uli (f : Int64 → Int32) (pc : Nat) (ls : Array Slot) (st : List Value) : own_R := match st with
  | .long x :: u => some (pc + 1, ls, .int (f x) :: u)
  | _ => none
theorem own_uli_ok {f : Int64 → Int32} (h : own_uli f pc ls st = some r) : ∃ x u, st = .long x :: u ∧ r = (pc + 1, ls, .int (f x) :: u) := by
  unfold own_uli at h
  split at h
  · exact ⟨_, _, rfl, (Option.some.inj h).symm⟩
  · exact nomatch h
def own_ull (f : Int64 → Int64) (pc : Nat) (ls : Array Slot) (st : List Value) : own_R := match st with
  | .long x :: u => some (pc + 1, ls, .long (f x) :: u)
  | _ => none
theorem own_ull_ok {f : Int64 → Int64} (h : own_ull f pc ls st = some r) : ∃ x u, st = .long x :: u ∧ r = (pc + 1, ls, .long (f x) :: u) := by
  unfold own_ull at h
  split at h
  · exact ⟨_, _, rfl, (Option.some.inj h).symm⟩
  · exact nomatch h
def own_inc (pc : Nat) (ls : Array Slot) (st : List Value) (k : Nat) (z : Int) : own_R := match ls[k]? with
  | some (.val (.int x)) => (match storeLocals ls k (.int (x + Int32.ofInt z)) with | some l' => some (pc + 3, l', st) | none => none)
  | _ => none
theorem own_inc_ok {z : Int} (h : own_inc pc ls st k z = some r) : ∃ x l', ls[k]? = some (.val (.int x)) ∧ storeLocals ls k (.int (x + Int32.ofInt z)) = some l' ∧ r = (pc + 3, l', st) := by
  unfold own_inc at h
  split at h
  · split at h
    · exact ⟨_, _, by assumption, by assumption, (Option.some.inj h).symm⟩
    · exact nomatch h
  · exact nomatch h
def own_dp1 (pc : Nat) (ls : Array Slot) (st : List Value) : own_R := match st with
  | x :: u => own_g x.category 1 (some (pc + 1, ls, x :: x :: u))
  | _ => none
theorem own_dp1_ok (h : own_dp1 pc ls st = some r) : ∃ x u, st = x :: u ∧ x.category = 1 ∧ r = (pc + 1, ls, x :: x :: u) := by
  unfold own_dp1 at h
  split at h
  · obtain ⟨w, h⟩ := own_g_ok h; exact ⟨_, _, rfl, w, (Option.some.inj h).symm⟩
  · exact nomatch h
def own_pp1 (pc : Nat) (ls : Array Slot) (st : List Value) : own_R := match st with
  | x :: u => own_g x.category 1 (some (pc + 1, ls, u))
  | _ => none
theorem own_pp1_ok (h : own_pp1 pc ls st = some r) : ∃ x u, st = x :: u ∧ x.category = 1 ∧ r = (pc + 1, ls, u) := by
  unfold own_pp1 at h
  split at h
  · obtain ⟨w, h⟩ := own_g_ok h; exact ⟨_, _, rfl, w, (Option.some.inj h).symm⟩
  · exact nomatch h
def own_dx1 (pc : Nat) (ls : Array Slot) (st : List Value) : own_R := match st with
  | x :: y :: u => own_g x.category 1 (own_g y.category 1 (some (pc + 1, ls, x :: y :: x :: u)))
  | _ => none
theorem own_dx1_ok (h : own_dx1 pc ls st = some r) : ∃ x y u, st = x :: y :: u ∧ x.category = 1 ∧ y.category = 1 ∧ r = (pc + 1, ls, x :: y :: x :: u) := by
  unfold own_dx1 at h
  split at h
  · obtain ⟨w, h⟩ := own_g_ok h; obtain ⟨w', h⟩ := own_g_ok h; exact ⟨_, _, _, rfl, w, w', (Option.some.inj h).symm⟩
  · exact nomatch h
def own_dp2 (pc : Nat) (ls : Array Slot) (st : List Value) : own_R := match st with
  | x :: y :: u => own_g x.category 1 (own_g y.category 1 (some (pc + 1, ls, x :: y :: x :: y :: u)))
  | _ => none
theorem own_dp2_ok (h : own_dp2 pc ls st = some r) : ∃ x y u, st = x :: y :: u ∧ x.category = 1 ∧ y.category = 1 ∧ r = (pc + 1, ls, x :: y :: x :: y :: u) := by
  unfold own_dp2 at h
  split at h
  · obtain ⟨w, h⟩ := own_g_ok h; obtain ⟨w', h⟩ := own_g_ok h; exact ⟨_, _, _, rfl, w, w', (Option.some.inj h).symm⟩
  · exact nomatch h
def own_jmp (pc : Nat) (ls : Array Slot) (st : List Value) (o : Int) : own_R := match (pc : Int) + o with
  | .ofNat n => some (n, ls, st)
  | .negSucc _ => none
theorem own_jmp_ok {o : Int} (h : own_jmp pc ls st o = some r) : 0 ≤ (pc : Int) + o ∧ r = (((pc : Int) + o).toNat, ls, st) := by
  unfold own_jmp at h
  split at h
  · rename_i n w; rw [w]; exact ⟨Int.natCast_nonneg n, (Option.some.inj h).symm⟩
  · exact nomatch h
def own_ifc (cd : ClassFile.Cond) (o : Int) (pc : Nat) (ls : Array Slot) (st : List Value) : own_R := match st with
  | .int x :: u => (match ifCond.holds cd x with | true => own_jmp pc ls u o | false => some (pc + 3, ls, u))
  | _ => none
theorem own_ifc_ok {cd : ClassFile.Cond} {o : Int} (h : own_ifc cd o pc ls st = some r) : ∃ x u, st = .int x :: u ∧ ((ifCond.holds cd x = true ∧ 0 ≤ (pc : Int) + o ∧ r = (((pc : Int) + o).toNat, ls, u)) ∨ (ifCond.holds cd x = false ∧ r = (pc + 3, ls, u))) := by
  unfold own_ifc at h
  split at h
  · refine ⟨_, _, rfl, ?_⟩
    split at h
    · exact Or.inl ⟨by assumption, own_jmp_ok h⟩
    · exact Or.inr ⟨by assumption, (Option.some.inj h).symm⟩
  · exact nomatch h
def own_icm (cd : ClassFile.Cond) (o : Int) (pc : Nat) (ls : Array Slot) (st : List Value) : own_R := match st with
  | .int y :: .int x :: u => (match if_icmp.holds cd x y with | true => own_jmp pc ls u o | false => some (pc + 3, ls, u))
  | _ => none
theorem own_icm_ok {cd : ClassFile.Cond} {o : Int} (h : own_icm cd o pc ls st = some r) : ∃ x y u, st = .int y :: .int x :: u ∧ ((if_icmp.holds cd x y = true ∧ 0 ≤ (pc : Int) + o ∧ r = (((pc : Int) + o).toNat, ls, u)) ∨ (if_icmp.holds cd x y = false ∧ r = (pc + 3, ls, u))) := by
  unfold own_icm at h
  split at h
  · refine ⟨_, _, _, rfl, ?_⟩
    split at h
    · exact Or.inl ⟨by assumption, own_jmp_ok h⟩
    · exact Or.inr ⟨by assumption, (Option.some.inj h).symm⟩
  · exact nomatch h
def own_ifn (o : Int) (pc : Nat) (ls : Array Slot) (st : List Value) : own_R := match st with
  | .null :: u => own_jmp pc ls u o
  | .ref b :: u => some (pc + 3, ls, u)
  | _ => none
theorem own_ifn_ok {o : Int} (h : own_ifn o pc ls st = some r) : ∃ u, (st = .null :: u ∧ 0 ≤ (pc : Int) + o ∧ r = (((pc : Int) + o).toNat, ls, u)) ∨ (∃ b, st = .ref b :: u ∧ r = (pc + 3, ls, u)) := by
  unfold own_ifn at h
  split at h
  · exact ⟨_, Or.inl ⟨rfl, own_jmp_ok h⟩⟩
  · exact ⟨_, Or.inr ⟨_, rfl, (Option.some.inj h).symm⟩⟩
  · exact nomatch h
def own_inn (o : Int) (pc : Nat) (ls : Array Slot) (st : List Value) : own_R := match st with
  | .ref b :: u => own_jmp pc ls u o
  | .null :: u => some (pc + 3, ls, u)
  | _ => none
theorem own_inn_ok {o : Int} (h : own_inn o pc ls st = some r) : ∃ u, (∃ b, st = .ref b :: u ∧ 0 ≤ (pc : Int) + o ∧ r = (((pc : Int) + o).toNat, ls, u)) ∨ (st = .null :: u ∧ r = (pc + 3, ls, u)) := by
  unfold own_inn at h
  split at h
  · exact ⟨_, Or.inl ⟨_, rfl, own_jmp_ok h⟩⟩
  · exact ⟨_, Or.inr ⟨rfl, (Option.some.inj h).symm⟩⟩
  · exact nomatch h
def own_step (i : Instr) (ln : Nat) (pc : Nat) (ls : Array Slot) (st : List Value) : own_R := match i with
  | .iload k => own_g ln 2 (own_ldi pc ls st k 2)
  | .iload_n k => own_g ln 1 (own_ldi pc ls st k.val 1)
  | .lload k => own_g ln 2 (own_ldl pc ls st k 2)
  | .lload_n k => own_g ln 1 (own_ldl pc ls st k.val 1)
  | .aload k => own_g ln 2 (own_lda pc ls st k 2)
  | .aload_n k => own_g ln 1 (own_lda pc ls st k.val 1)
  | .istore k => own_g ln 2 (own_sti pc ls st k 2)
  | .istore_n k => own_g ln 1 (own_sti pc ls st k.val 1)
  | .lstore k => own_g ln 2 (own_stl pc ls st k 2)
  | .lstore_n k => own_g ln 1 (own_stl pc ls st k.val 1)
  | .astore k => own_g ln 2 (own_sta pc ls st k 2)
  | .astore_n k => own_g ln 1 (own_sta pc ls st k.val 1)
  | .iconst i => own_g ln 1 (some (pc + 1, ls, .int (Int32.ofInt i) :: st))
  | .bipush i => own_g ln 2 (some (pc + 2, ls, .int (Int8.ofInt i).toInt32 :: st))
  | .sipush i => own_g ln 3 (some (pc + 3, ls, .int (Int16.ofInt i).toInt32 :: st))
  | .lconst i => own_g ln 1 (some (pc + 1, ls, .long (Int64.ofNat i) :: st))
  | .aconst_null => own_g ln 1 (some (pc + 1, ls, .null :: st))
  | .iadd => own_g ln 1 (own_bii (fun x y => x + y) pc ls st)
  | .ladd => own_g ln 1 (own_bll (fun x y => x + y) pc ls st)
  | .isub => own_g ln 1 (own_bii (fun x y => x - y) pc ls st)
  | .lsub => own_g ln 1 (own_bll (fun x y => x - y) pc ls st)
  | .imul => own_g ln 1 (own_bii (fun x y => x * y) pc ls st)
  | .lmul => own_g ln 1 (own_bll (fun x y => x * y) pc ls st)
  | .iand => own_g ln 1 (own_bii (fun x y => x &&& y) pc ls st)
  | .land => own_g ln 1 (own_bll (fun x y => x &&& y) pc ls st)
  | .ior => own_g ln 1 (own_bii (fun x y => x ||| y) pc ls st)
  | .lor => own_g ln 1 (own_bll (fun x y => x ||| y) pc ls st)
  | .ixor => own_g ln 1 (own_bii (fun x y => x ^^^ y) pc ls st)
  | .lxor => own_g ln 1 (own_bll (fun x y => x ^^^ y) pc ls st)
  | .ishl => own_g ln 1 (own_bii (fun x y => x <<< (y &&& 31)) pc ls st)
  | .ishr => own_g ln 1 (own_bii (fun x y => x >>> (y &&& 31)) pc ls st)
  | .iushr => own_g ln 1 (own_bii (fun x y => (x.toUInt32 >>> (y &&& 31).toUInt32).toInt32) pc ls st)
  | .lshl => own_g ln 1 (own_bli (fun x y => x <<< (y &&& 0x3f).toInt64) pc ls st)
  | .lshr => own_g ln 1 (own_bli (fun x y => x >>> (y &&& 0x3f).toInt64) pc ls st)
  | .lushr => own_g ln 1 (own_bli (fun x y => (x.toUInt64 >>> (y &&& 0x3f).toInt64.toUInt64).toInt64) pc ls st)
  | .lcmp => own_g ln 1 (own_bci (fun x y => if x > y then 1 else if x = y then 0 else -1) pc ls st)
  | .ineg => own_g ln 1 (own_uii (fun x => -x) pc ls st)
  | .lneg => own_g ln 1 (own_ull (fun x => -x) pc ls st)
  | .i2l => own_g ln 1 (own_uil (fun x => x.toInt64) pc ls st)
  | .l2i => own_g ln 1 (own_uli (fun x => x.toInt32) pc ls st)
  | .i2b => own_g ln 1 (own_uii (fun x => x.toInt8.toInt32) pc ls st)
  | .i2s => own_g ln 1 (own_uii (fun x => x.toInt16.toInt32) pc ls st)
  | .i2c => own_g ln 1 (own_uii (fun x => x.toUInt32.toUInt16.toUInt32.toInt32) pc ls st)
  | .iinc k z => own_g ln 3 (own_inc pc ls st k z)
  | .dup => own_g ln 1 (own_dp1 pc ls st)
  | .pop => own_g ln 1 (own_pp1 pc ls st)
  | .dup_x1 => own_g ln 1 (own_dx1 pc ls st)
  | .dup2 => own_g ln 1 (own_dp2 pc ls st)
  | .goto o => own_g ln 3 (own_jmp pc ls st o)
  | .ifCond cd o => own_g ln 3 (own_ifc cd o pc ls st)
  | .if_icmp cd o => own_g ln 3 (own_icm cd o pc ls st)
  | .ifnull o => own_g ln 3 (own_ifn o pc ls st)
  | .ifnonnull o => own_g ln 3 (own_inn o pc ls st)
  | _ => none
theorem own_step_ok (X : Stand p l e R s m args below meth c T locs cells slots) (hx : p.tables.exec = Jvm.exec) {ln : Nat} (i : Instr) (hd : decode c.code pc = .ok (i, ln)) (h : own_step i ln pc ls st = some r) {t : State} (kk : Steps p.tables e below (T.setTop (mkF m r.1 r.2.1 r.2.2)) t) : Steps p.tables e below (T.setTop (mkF m pc ls st)) t := by
  cases i
  case iload k =>
    obtain ⟨rfl, h⟩ := own_g_ok h
    obtain ⟨v, hl, rfl⟩ := own_ldi_ok h
    exact XS.iload X.here hx rfl hd hl kk
  case iload_n k =>
    obtain ⟨rfl, h⟩ := own_g_ok h
    obtain ⟨v, hl, rfl⟩ := own_ldi_ok h
    exact XS.iloadN X.here hx rfl hd hl kk
  case lload k =>
    obtain ⟨rfl, h⟩ := own_g_ok h
    obtain ⟨v, hl, rfl⟩ := own_ldl_ok h
    exact XS.lload X.here hx rfl hd hl kk
  case lload_n k =>
    obtain ⟨rfl, h⟩ := own_g_ok h
    obtain ⟨v, hl, rfl⟩ := own_ldl_ok h
    exact XS.lloadN X.here hx rfl hd hl kk
  case aload k =>
    obtain ⟨rfl, h⟩ := own_g_ok h
    obtain ⟨v, hl, hv, rfl⟩ := own_lda_ok h
    exact XS.aload X.here hx rfl hd hl hv kk
  case aload_n k =>
    obtain ⟨rfl, h⟩ := own_g_ok h
    obtain ⟨v, hl, hv, rfl⟩ := own_lda_ok h
    exact XS.aloadN X.here hx rfl hd hl hv kk
  case istore k =>
    obtain ⟨rfl, h⟩ := own_g_ok h
    obtain ⟨v, u, l', rfl, hl, rfl⟩ := own_sti_ok h
    exact XS.istore X.here hx rfl hd rfl hl kk
  case istore_n k =>
    obtain ⟨rfl, h⟩ := own_g_ok h
    obtain ⟨v, u, l', rfl, hl, rfl⟩ := own_sti_ok h
    exact XS.istoreN X.here hx rfl hd rfl hl kk
  case lstore k =>
    obtain ⟨rfl, h⟩ := own_g_ok h
    obtain ⟨v, u, l', rfl, hl, rfl⟩ := own_stl_ok h
    exact XS.lstore X.here hx rfl hd rfl hl kk
  case lstore_n k =>
    obtain ⟨rfl, h⟩ := own_g_ok h
    obtain ⟨v, u, l', rfl, hl, rfl⟩ := own_stl_ok h
    exact XS.lstoreN X.here hx rfl hd rfl hl kk
  case astore k =>
    obtain ⟨rfl, h⟩ := own_g_ok h
    obtain ⟨v, u, l', rfl, hv, hl, rfl⟩ := own_sta_ok h
    exact XS.astore X.here hx rfl hd rfl hv hl kk
  case astore_n k =>
    obtain ⟨rfl, h⟩ := own_g_ok h
    obtain ⟨v, u, l', rfl, hv, hl, rfl⟩ := own_sta_ok h
    exact XS.astoreN X.here hx rfl hd rfl hv hl kk
  case iconst i =>
    obtain ⟨rfl, h⟩ := own_g_ok h
    obtain rfl := Option.some.inj h
    exact XS.iconst X.here hx rfl hd kk
  case bipush i =>
    obtain ⟨rfl, h⟩ := own_g_ok h
    obtain rfl := Option.some.inj h
    exact XS.bipush X.here hx rfl hd kk
  case sipush i =>
    obtain ⟨rfl, h⟩ := own_g_ok h
    obtain rfl := Option.some.inj h
    exact XS.sipush X.here hx rfl hd kk
  case lconst i =>
    obtain ⟨rfl, h⟩ := own_g_ok h
    obtain rfl := Option.some.inj h
    exact XS.lconst X.here hx rfl hd kk
  case aconst_null =>
    obtain ⟨rfl, h⟩ := own_g_ok h
    obtain rfl := Option.some.inj h
    exact XS.aconstNull X.here hx rfl hd kk
  case iadd =>
    obtain ⟨rfl, h⟩ := own_g_ok h
    obtain ⟨x, y, u, rfl, rfl⟩ := own_bii_ok h
    exact XS.iadd X.here hx rfl hd rfl kk
  case ladd =>
    obtain ⟨rfl, h⟩ := own_g_ok h
    obtain ⟨x, y, u, rfl, rfl⟩ := own_bll_ok h
    exact XS.ladd X.here hx rfl hd rfl kk
  case isub =>
    obtain ⟨rfl, h⟩ := own_g_ok h
    obtain ⟨x, y, u, rfl, rfl⟩ := own_bii_ok h
    exact XS.isub X.here hx rfl hd rfl kk
  case lsub =>
    obtain ⟨rfl, h⟩ := own_g_ok h
    obtain ⟨x, y, u, rfl, rfl⟩ := own_bll_ok h
    exact XS.lsub X.here hx rfl hd rfl kk
  case imul =>
    obtain ⟨rfl, h⟩ := own_g_ok h
    obtain ⟨x, y, u, rfl, rfl⟩ := own_bii_ok h
    exact XS.imul X.here hx rfl hd rfl kk
  case lmul =>
    obtain ⟨rfl, h⟩ := own_g_ok h
    obtain ⟨x, y, u, rfl, rfl⟩ := own_bll_ok h
    exact XS.lmul X.here hx rfl hd rfl kk
  case iand =>
    obtain ⟨rfl, h⟩ := own_g_ok h
    obtain ⟨x, y, u, rfl, rfl⟩ := own_bii_ok h
    exact XS.iand X.here hx rfl hd rfl kk
  case land =>
    obtain ⟨rfl, h⟩ := own_g_ok h
    obtain ⟨x, y, u, rfl, rfl⟩ := own_bll_ok h
    exact XS.land X.here hx rfl hd rfl kk
  case ior =>
    obtain ⟨rfl, h⟩ := own_g_ok h
    obtain ⟨x, y, u, rfl, rfl⟩ := own_bii_ok h
    exact XS.ior X.here hx rfl hd rfl kk
  case lor =>
    obtain ⟨rfl, h⟩ := own_g_ok h
    obtain ⟨x, y, u, rfl, rfl⟩ := own_bll_ok h
    exact XS.lor X.here hx rfl hd rfl kk
  case ixor =>
    obtain ⟨rfl, h⟩ := own_g_ok h
    obtain ⟨x, y, u, rfl, rfl⟩ := own_bii_ok h
    exact XS.ixor X.here hx rfl hd rfl kk
  case lxor =>
    obtain ⟨rfl, h⟩ := own_g_ok h
    obtain ⟨x, y, u, rfl, rfl⟩ := own_bll_ok h
    exact XS.lxor X.here hx rfl hd rfl kk
  case ishl =>
    obtain ⟨rfl, h⟩ := own_g_ok h
    obtain ⟨x, y, u, rfl, rfl⟩ := own_bii_ok h
    exact XS.ishl X.here hx rfl hd rfl kk
  case ishr =>
    obtain ⟨rfl, h⟩ := own_g_ok h
    obtain ⟨x, y, u, rfl, rfl⟩ := own_bii_ok h
    exact XS.ishr X.here hx rfl hd rfl kk
  case iushr =>
    obtain ⟨rfl, h⟩ := own_g_ok h
    obtain ⟨x, y, u, rfl, rfl⟩ := own_bii_ok h
    exact XS.iushr X.here hx rfl hd rfl kk
  case lshl =>
    obtain ⟨rfl, h⟩ := own_g_ok h
    obtain ⟨x, y, u, rfl, rfl⟩ := own_bli_ok h
    exact XS.lshl X.here hx rfl hd rfl kk
  case lshr =>
    obtain ⟨rfl, h⟩ := own_g_ok h
    obtain ⟨x, y, u, rfl, rfl⟩ := own_bli_ok h
    exact XS.lshr X.here hx rfl hd rfl kk
  case lushr =>
    obtain ⟨rfl, h⟩ := own_g_ok h
    obtain ⟨x, y, u, rfl, rfl⟩ := own_bli_ok h
    exact XS.lushr X.here hx rfl hd rfl kk
  case lcmp =>
    obtain ⟨rfl, h⟩ := own_g_ok h
    obtain ⟨x, y, u, rfl, rfl⟩ := own_bci_ok h
    exact XS.lcmp X.here hx rfl hd rfl kk
  case ineg =>
    obtain ⟨rfl, h⟩ := own_g_ok h
    obtain ⟨x, u, rfl, rfl⟩ := own_uii_ok h
    exact XS.ineg X.here hx rfl hd rfl kk
  case lneg =>
    obtain ⟨rfl, h⟩ := own_g_ok h
    obtain ⟨x, u, rfl, rfl⟩ := own_ull_ok h
    exact XS.lneg X.here hx rfl hd rfl kk
  case i2l =>
    obtain ⟨rfl, h⟩ := own_g_ok h
    obtain ⟨x, u, rfl, rfl⟩ := own_uil_ok h
    exact XS.i2l X.here hx rfl hd rfl kk
  case l2i =>
    obtain ⟨rfl, h⟩ := own_g_ok h
    obtain ⟨x, u, rfl, rfl⟩ := own_uli_ok h
    exact XS.l2i X.here hx rfl hd rfl kk
  case i2b =>
    obtain ⟨rfl, h⟩ := own_g_ok h
    obtain ⟨x, u, rfl, rfl⟩ := own_uii_ok h
    exact XS.i2b X.here hx rfl hd rfl kk
  case i2s =>
    obtain ⟨rfl, h⟩ := own_g_ok h
    obtain ⟨x, u, rfl, rfl⟩ := own_uii_ok h
    exact XS.i2s X.here hx rfl hd rfl kk
  case i2c =>
    obtain ⟨rfl, h⟩ := own_g_ok h
    obtain ⟨x, u, rfl, rfl⟩ := own_uii_ok h
    exact XS.i2c X.here hx rfl hd rfl kk
  case iinc k z =>
    obtain ⟨rfl, h⟩ := own_g_ok h
    obtain ⟨x, l', hl, hl', rfl⟩ := own_inc_ok h
    exact XS.iinc X.here hx rfl hd hl hl' kk
  case dup =>
    obtain ⟨rfl, h⟩ := own_g_ok h
    obtain ⟨x, u, rfl, w, rfl⟩ := own_dp1_ok h
    exact XS.dup X.here hx rfl hd rfl w kk
  case pop =>
    obtain ⟨rfl, h⟩ := own_g_ok h
    obtain ⟨x, u, rfl, w, rfl⟩ := own_pp1_ok h
    exact XS.pop X.here hx rfl hd rfl w kk
  case dup_x1 =>
    obtain ⟨rfl, h⟩ := own_g_ok h
    obtain ⟨x, y, u, rfl, w, w', rfl⟩ := own_dx1_ok h
    exact XS.dupX1 X.here hx rfl hd rfl w w' kk
  case dup2 =>
    obtain ⟨rfl, h⟩ := own_g_ok h
    obtain ⟨x, y, u, rfl, w, w', rfl⟩ := own_dp2_ok h
    exact own_dup2 X.here hx rfl hd rfl w w' kk
  case goto o =>
    obtain ⟨rfl, h⟩ := own_g_ok h
    obtain ⟨w, rfl⟩ := own_jmp_ok h
    exact XS.goto X.here hx rfl (pc0 := pc) rfl hd w rfl kk
  case ifCond cd o =>
    obtain ⟨rfl, h⟩ := own_g_ok h
    obtain ⟨x, u, rfl, ⟨w, w', rfl⟩ | ⟨w, rfl⟩⟩ := own_ifc_ok h
    · exact XS.ifYes X.here hx rfl (pc0 := pc) rfl hd rfl w w' rfl kk
    · exact XS.ifNo X.here hx rfl hd rfl w kk
  case if_icmp cd o =>
    obtain ⟨rfl, h⟩ := own_g_ok h
    obtain ⟨x, y, u, rfl, ⟨w, w', rfl⟩ | ⟨w, rfl⟩⟩ := own_icm_ok h
    · exact XS.icmpYes X.here hx rfl (pc0 := pc) rfl hd rfl w w' rfl kk
    · exact XS.icmpNo X.here hx rfl hd rfl w kk
  case ifnull o =>
    obtain ⟨rfl, h⟩ := own_g_ok h
    obtain ⟨u, ⟨rfl, w', rfl⟩ | ⟨b, rfl, rfl⟩⟩ := own_ifn_ok h
    · exact XS.ifnullYes X.here hx rfl (pc0 := pc) rfl hd rfl w' rfl kk
    · exact XS.ifnullNo X.here hx rfl hd rfl kk
  case ifnonnull o =>
    obtain ⟨rfl, h⟩ := own_g_ok h
    obtain ⟨u, ⟨b, rfl, w', rfl⟩ | ⟨rfl, rfl⟩⟩ := own_inn_ok h
    · exact XS.ifnonnullYes X.here hx rfl (pc0 := pc) rfl hd rfl w' rfl kk
    · exact XS.ifnonnullNo X.here hx rfl hd rfl kk
  all_goals exact nomatch (show (none : own_R) = some _ from h)
def own_fetch (M : Nat) (f : Nat → Option (Instr × Nat)) (pc : Nat) : Option (Instr × Nat) := bif Nat.ble pc M then f pc else none
def own_exec (M : Nat) (f : Nat → Option (Instr × Nat)) : Nat → Nat → Array Slot → List Value → own_R
  | 0, pc, ls, st => some (pc, ls, st)
  | n + 1, pc, ls, st => match own_fetch M f pc with
    | some (i, ln) => (match own_step i ln pc ls st with
      | some (pc', ls', st') => own_exec M f n pc' ls' st'
      | none => none)
    | none => none
def tQ (k : Nat) (i : Instr) (n pc : Nat) : Option (Instr × Nat) := bif Nat.beq pc k then some (i, n) else none
def tP (k : Nat) (i : Instr) (pc : Nat) : Option (Instr × Nat) := bif Nat.beq pc k then some (i, 1) else none
def tB (k : Nat) (a b : Nat → Option (Instr × Nat)) (pc : Nat) : Option (Instr × Nat) := bif Nat.ble pc k then a pc else b pc
def own_chk (code : ByteArray) (f : Nat → Option (Instr × Nat)) (pc : Nat) : Bool := match f pc with
  | some q => decide (decode code pc = .ok q)
  | none => true
theorem own_tab {M : Nat} {f : Nat → Option (Instr × Nat)} {code : ByteArray} (H : ∀ pc, pc < M + 1 → own_chk code f pc = true) (pc : Nat) (q : Instr × Nat) (h : own_fetch M f pc = some q) : decode code pc = .ok q := by
  unfold own_fetch at h
  cases w : Nat.ble pc M with
  | false => rw [w] at h; exact nomatch h
  | true =>
    rw [w] at h
    have h' : f pc = some q := h
    have u := H pc (Nat.lt_succ_of_le (Nat.le_of_ble_eq_true w))
    unfold own_chk at u
    rw [h'] at u
    exact of_decide_eq_true u
def own_T (p : Program) (c : Code) (M : Nat) (f : Nat → Option (Instr × Nat)) : Prop := p.tables.exec = Jvm.exec ∧ ∀ pc q, own_fetch M f pc = some q → decode c.code pc = .ok q
theorem own_tt {M : Nat} {f : Nat → Option (Instr × Nat)} {code : ByteArray} (hx : p.tables.exec = Jvm.exec) (hby : c.code = code) (H : ∀ pc q, own_fetch M f pc = some q → decode code pc = .ok q) : own_T p c M f := ⟨hx, fun pc q h => hb hby (H pc q h)⟩
theorem own_r {M : Nat} {f : Nat → Option (Instr × Nat)} (X : Stand p l e R s m args below meth c T locs cells slots) (tt : own_T p c M f) (pc n : Nat) {ls : Array Slot} {st : List Value} {pc' : Nat} {ls' : Array Slot} {st' : List Value} (h : own_exec M f n pc ls st = some (pc', ls', st')) {t : State} (kk : Steps p.tables e below (T.setTop (mkF m pc' ls' st')) t) : Steps p.tables e below (T.setTop (mkF m pc ls st)) t := by
  induction n generalizing pc ls st with
  | zero => cases h; exact kk
  | succ n ih =>
    unfold own_exec at h
    split at h
    · split at h
      · exact own_step_ok X tt.1 _ (tt.2 _ _ (by assumption)) (by assumption) (ih _ h)
      · exact nomatch h
    · exact nomatch h
theorem own_e {M : Nat} {f : Nat → Option (Instr × Nat)} (X : Stand p l e R s m args below meth c T locs cells slots) (tt : own_T p c M f) (pc n : Nat) {ls : Array Slot} {st : List Value} {pc' : Nat} {ls' : Array Slot} {st' : List Value} {t : State} (kk : Steps p.tables e below (T.setTop (mkF m pc' ls' st')) t) (h : own_exec M f n pc ls st = some (pc', ls', st')) : Steps p.tables e below (T.setTop (mkF m pc ls st)) t := own_r X tt pc n h kk
theorem oG {M : Nat} {f : Nat → Option (Instr × Nat)} (X : Stand p l e R s m args below meth c T locs cells slots) (tt : own_T p c M f) (n : Nat) {pc : Nat} {ls : Array Slot} {st : List Value} (pc' : Nat) (ls' : Array Slot) (st' : List Value) (h : own_exec M f n pc ls st = some (pc', ls', st')) {Q : Option Value → Heap → List Loc → Prop} {cc nn : Nat} (k : own_Ends p e below s Q cc nn T (mkF m pc' ls' st')) : own_Ends p e below s Q cc nn T (mkF m pc ls st) := own_go (fun _ k => own_r X tt pc n h k) k
theorem oH {M : Nat} {f : Nat → Option (Instr × Nat)} {T0 : State} {f0 : JFrame} {pc : Nat} {ls : Array Slot} {st : List Value} (k0 : ∀ t, Steps p.tables e below (T.setTop (mkF m pc ls st)) t → Steps p.tables e below (T0.setTop f0) t) (X : Stand p l e R s m args below meth c T locs cells slots) (tt : own_T p c M f) (n : Nat) (pc' : Nat) (ls' : Array Slot) (st' : List Value) (h : own_exec M f n pc ls st = some (pc', ls', st')) {Q : Option Value → Heap → List Loc → Prop} {cc nn : Nat} (k : own_Ends p e below s Q cc nn T (mkF m pc' ls' st')) : own_Ends p e below s Q cc nn T0 f0 := own_go (fun t k => k0 t (own_r X tt pc n h k)) k
theorem oJ {T0 : State} {f0 : JFrame} (pc : Nat) (ls : Array Slot) (st : List Value) (k0 : ∀ t, Steps p.tables e below (T.setTop (mkF m pc ls st)) t → Steps p.tables e below (T0.setTop f0) t) {Q : Option Value → Heap → List Loc → Prop} {cc nn : Nat} (k : own_Ends p e below s Q cc nn T (mkF m pc ls st)) : own_Ends p e below s Q cc nn T0 f0 := own_go k0 k
theorem oV (pc : Nat) (ls : Array Slot) (st : List Value) {Q : Option Value → Heap → List Loc → Prop} {cc nn : Nat} (k : own_Ends p e below s Q cc nn T (mkF m pc ls st)) : own_Ends p e below s Q cc nn T (mkF m pc ls st) := k
theorem oN {r : Option FieldType} {t : FieldType} {v : Option Value} (h : r = some t) : r = none → v = none := fun q => by rw [h] at q; cases q
theorem oL {a b c : Nat} (h : a < b) (h2 : b ≤ c) : a ≠ c := Nat.ne_of_lt (oW h h2)
theorem oM {a b c : Nat} (h : a < b) (h2 : b ≤ c) : c ≠ a := Nat.ne_of_gt (oW h h2)
abbrev oRm (f c s l : Nat) : Room := { frames := f, cells := c, slots := s, locals := l }
abbrev own_Met (l : Launch) (y : MethodName) (b : ByteArray) (ml : Nat) (ret : Option FieldType) (ws : List Jvm.Cond) (rm : Room) (A : Array Value) (Z : State) (h0 : Heap) (Q : Option Value → Heap → List Loc → Prop) : Prop :=
  MetFree l y (head1 (Jvm.Cond.code y b ml ret :: ws) rm) (fun a U => a = A ∧ Z.Warmed39 U.vm ∧ U.heap = h0) (fun _ _ _ _ _ => True) (fun _ U o U' => ∃ v L, o = .returned v ∧ Q v U'.heap L ∧ FrameEnd U o U' L rm.cells rm.slots)
theorem own_met {l : Launch} {y : MethodName} {b : ByteArray} {ml : Nat} {ret : Option FieldType} {ws : List Jvm.Cond} {rm : Room} {A : Array Value} {Z : State} {h0 : Heap} {Q : Option Value → Heap → List Loc → Prop} {own : String} (ho : y.cls = own) (hp : plainFor y = true)
    (H : ∀ (p : Program) (e : Env) (s : State) (m : MethodId) (below : List Frame) (meth : Method) (c : Code) (s₁ : State), p.tables.exec = Jvm.exec → c.code = b → c.maxLocals = ml → Z.Warmed39 s.vm → s.vm.findClass own = some m.cls → meth.name = y.name → Stand p l e rm s m A below meth c s₁ [] 0 0 → s₁.heap = h0 → meth.sig.returnType = ret → meth.locks = false → own_Ends p e below s Q rm.cells rm.slots s₁ (entryFrame m A ml)) : own_Met l y b ml ret ws rm A Z h0 Q := by
  subst ho
  refine MetFree.of_bodySF hp hisR ?_
  intro p e s m args below meth c s₁ Bd hml0 hP hK
  obtain ⟨rfl, hZ, hh⟩ := hP
  exact H p e s m below meth c s₁ Bd.exec Bd.bytes hml0 hZ (findClass_of_methodNamed Bd.named) (name_of_methodNamed Bd.named Bd.method).1 (Stand.of_body Bd) (by rw [← hh, Bd.state]; rfl) Bd.returns Bd.notSynchronized
end Run
section Calls
variable {p : Program} {l : Launch} {e : Env} {R : Room} {s : State} {m : MethodId} {args : Array Value} {below : List Frame} {meth : Method} {c : Code} {T : State} {locs : List Loc} {cells slots cc nn : Nat} {Q Q' : Option Value → Heap → List Loc → Prop} {Z : State} {h : Heap} {a0 : Array Value} {own C : String} {y z : MethodName} {bytes : ByteArray} {ml idx cnt W pc : Nat} {ret : Option FieldType} {rm : Room} {ls : Array Slot} {argsL rest : List Value} {b : Addr}
theorem own_cS (X : Stand p l e R s m args below meth c T locs cells slots) (hx : p.tables.exec = Jvm.exec) (hZ : Z.Warmed39 s.vm) (hown : s.vm.findClass own = some m.cls) (eT : T.heap = h) (w1 : (Cond.methodLink own idx y).before a0 Z = true) (w2 : (Cond.static y).before a0 Z = true) (wz : (Cond.initialized y.cls).before a0 Z = true) (wc : (Cond.code y bytes ml ret).before a0 Z = true) (hsz : ls.size = c.maxLocals) (hd : decode c.code pc = .ok (.invokestatic idx, 3)) (hlen : ∀ sig, parseMethodDescriptor y.desc = some sig → argsL.length = sig.parameters.length) (hW : 2 * 0 + (rest.map fun v => v.category).sum = W) (hb : (y.cls ≠ "java/lang/invoke/MethodHandle" ∧ y.cls ≠ "java/lang/invoke/VarHandle") ∧ rm.frames + 1 ≤ R.frames ∧ W + (ml + 11) + rm.locals ≤ R.locals ∧ cells + rm.cells ≤ R.cells ∧ slots + rm.slots ≤ R.slots) (hM : own_Met l y bytes ml ret [] rm argsL.toArray Z h Q')
    (K : ∀ v T' L, Stand p l e R s m args below meth c T' (locs ++ L) (cells + rm.cells) (slots + rm.slots) → Q' v T'.heap L → own_Ends p e below s Q cc nn T' (mkF m (pc + 3) ls (v.toList ++ rest))) :
    own_Ends p e below s Q cc nn T (mkF m pc ls (argsL.reverse ++ rest)) := by
  obtain ⟨v, T', L, X', hQ, st⟩ := own_outC (Jvm.LawKit.callS X hx hown (mvT hZ w1) (mvT hZ w2) (mvT hZ wz) (mvT hZ wc) hb.1 (backOf (W := W) hM hZ wc wz hb.2.1 hb.2.2.1) (g := mkF m pc ls (argsL.reverse ++ rest)) rfl hsz (argsL := argsL) (rest := rest) hlen rfl (Nat.le_of_eq hW) hd (fun _ _ => ⟨rfl, eT, hb.2.2.2.1, hb.2.2.2.2⟩))
  exact own_go (T' := T') (f' := mkF m (pc + 3) ls (v.toList ++ rest)) (fun t k => st t k) (K v T' L X' hQ)
theorem own_cV (X : Stand p l e R s m args below meth c T locs cells slots) (hx : p.tables.exec = Jvm.exec) (hZ : Z.Warmed39 s.vm) (hown : s.vm.findClass own = some m.cls) (eT : T.heap = h) (w1 : (Cond.methodLink own idx y).before a0 Z = true) (w2 : (Cond.declares y).before a0 Z = true) (nf : NotFace s y) (w3 : (Cond.selects C y z).before a0 Z = true) (w4 : (Cond.instanceMethod z).before a0 Z = true) (wz : (Cond.initialized z.cls).before a0 Z = true) (wc : (Cond.code z bytes ml ret).before a0 Z = true) (E : Exa Z h b C) (hsz : ls.size = c.maxLocals) (hd : decode c.code pc = .ok (.invokevirtual idx, 3)) (hlen : ∀ sig, parseMethodDescriptor y.desc = some sig → argsL.length = sig.parameters.length) (hW : 2 * 0 + (rest.map fun v => v.category).sum = W) (hb : (y.cls ≠ "java/lang/invoke/MethodHandle" ∧ y.cls ≠ "java/lang/invoke/VarHandle") ∧ rm.frames + 1 ≤ R.frames ∧ W + (ml + 11) + rm.locals ≤ R.locals ∧ cells + rm.cells ≤ R.cells ∧ slots + rm.slots ≤ R.slots) (hM : own_Met l z bytes ml ret [] rm (.ref b :: argsL).toArray Z h Q')
    (K : ∀ v T' L, Stand p l e R s m args below meth c T' (locs ++ L) (cells + rm.cells) (slots + rm.slots) → Q' v T'.heap L → own_Ends p e below s Q cc nn T' (mkF m (pc + 3) ls (v.toList ++ rest))) :
    own_Ends p e below s Q cc nn T (mkF m pc ls (argsL.reverse ++ .ref b :: rest)) := by
  obtain ⟨cq, kq, qa, qb, qc⟩ := isOf hZ eT E
  obtain ⟨v, T', L, X', hQ, st⟩ := own_out (X.virtualBack hx hown (mvT hZ w1) (mvT hZ w2) nf (mvT hZ w3) (mvT hZ w4) hb.1 (backOf (W := W) hM hZ wc wz hb.2.1 hb.2.2.1) qa qc (g := mkF m pc ls (argsL.reverse ++ .ref b :: rest)) rfl hsz (Steps.refl _) (argsL := argsL) (rest := rest) hlen rfl (Nat.le_of_eq hW) hd (fun _ _ => ⟨rfl, eT, hb.2.2.2.1, hb.2.2.2.2⟩))
  exact own_go (T' := T') (f' := mkF m (pc + 3) ls (v.toList ++ rest)) (fun t k => st.trans k) (K v T' L X' hQ)
theorem own_cI (X : Stand p l e R s m args below meth c T locs cells slots) (hx : p.tables.exec = Jvm.exec) (hZ : Z.Warmed39 s.vm) (hown : s.vm.findClass own = some m.cls) (eT : T.heap = h) (w1 : (Cond.methodLink own idx y).before a0 Z = true) (w2 : (Cond.declares y).before a0 Z = true) (w5 : (Cond.interfaceMethod y.cls y.cls y.name y.desc).before args s = true) (w3 : (Cond.selects C y z).before a0 Z = true) (w4 : (Cond.instanceMethod z).before a0 Z = true) (w6 : (Cond.publicMethod z).before a0 Z = true) (w7 : (Cond.unhidden C y.name y.desc).before a0 Z = true) (w8 : (Cond.castable C y.cls).before a0 Z = true) (wz : (Cond.initialized z.cls).before a0 Z = true) (wc : (Cond.code z bytes ml ret).before a0 Z = true) (E : Exa Z h b C) (hsz : ls.size = c.maxLocals) (hd : decode c.code pc = .ok (.invokeinterface idx cnt, 5)) (hlen : ∀ sig, parseMethodDescriptor y.desc = some sig → argsL.length = sig.parameters.length) (hW : 2 * 0 + (rest.map fun v => v.category).sum = W) (hb : (y.cls ≠ "java/lang/invoke/MethodHandle" ∧ y.cls ≠ "java/lang/invoke/VarHandle") ∧ rm.frames + 1 ≤ R.frames ∧ W + (ml + 11) + rm.locals ≤ R.locals ∧ cells + rm.cells ≤ R.cells ∧ slots + rm.slots ≤ R.slots) (hM : own_Met l z bytes ml ret [] rm (.ref b :: argsL).toArray Z h Q')
    (K : ∀ v T' L, Stand p l e R s m args below meth c T' (locs ++ L) (cells + rm.cells) (slots + rm.slots) → Q' v T'.heap L → own_Ends p e below s Q cc nn T' (mkF m (pc + 5) ls (v.toList ++ rest))) :
    own_Ends p e below s Q cc nn T (mkF m pc ls (argsL.reverse ++ .ref b :: rest)) := by
  obtain ⟨cq, kq, qa, qb, qc⟩ := isOf hZ eT E
  obtain ⟨v, T', L, X', hQ, st⟩ := own_out (X.interfaceBack hx hown (mvT hZ w1) (mvT hZ w2) w5 (mvT hZ w3) (mvT hZ w4) (mvT hZ w6) (mvT hZ w7) (mvT hZ w8) hb.1 (backOf (W := W) hM hZ wc wz hb.2.1 hb.2.2.1) qa qb qc (g := mkF m pc ls (argsL.reverse ++ .ref b :: rest)) rfl hsz (Steps.refl _) (argsL := argsL) (rest := rest) hlen rfl (Nat.le_of_eq hW) hd (fun _ _ => ⟨rfl, eT, hb.2.2.2.1, hb.2.2.2.2⟩))
  exact own_go (T' := T') (f' := mkF m (pc + 5) ls (v.toList ++ rest)) (fun t k => st.trans k) (K v T' L X' hQ)
theorem own_cP (X : Stand p l e R s m args below meth c T locs cells slots) (hx : p.tables.exec = Jvm.exec) (hZ : Z.Warmed39 s.vm) (hown : s.vm.findClass own = some m.cls) (eT : T.heap = h) (w1 : (Cond.methodLink own idx y).before a0 Z = true) (w2 : (Cond.instanceMethod y).before a0 Z = true) (w3 : (Cond.selects y.cls y y).before args s = true) (w4 : (Cond.privateMethod y).before a0 Z = true) (wz : (Cond.initialized y.cls).before a0 Z = true) (wc : (Cond.code y bytes ml ret).before a0 Z = true) (E : Exa Z h b C) (hsz : ls.size = c.maxLocals) (hd : decode c.code pc = .ok (.invokevirtual idx, 3)) (hlen : ∀ sig, parseMethodDescriptor y.desc = some sig → argsL.length = sig.parameters.length) (hW : 2 * 0 + (rest.map fun v => v.category).sum = W) (hb : (y.cls ≠ "java/lang/invoke/MethodHandle" ∧ y.cls ≠ "java/lang/invoke/VarHandle") ∧ rm.frames + 1 ≤ R.frames ∧ W + (ml + 11) + rm.locals ≤ R.locals ∧ cells + rm.cells ≤ R.cells ∧ slots + rm.slots ≤ R.slots) (hM : own_Met l y bytes ml ret [] rm (.ref b :: argsL).toArray Z h Q')
    (K : ∀ v T' L, Stand p l e R s m args below meth c T' (locs ++ L) (cells + rm.cells) (slots + rm.slots) → Q' v T'.heap L → own_Ends p e below s Q cc nn T' (mkF m (pc + 3) ls (v.toList ++ rest))) :
    own_Ends p e below s Q cc nn T (mkF m pc ls (argsL.reverse ++ .ref b :: rest)) := by
  obtain ⟨cq, kk, q1, q2, q3, q4, q5⟩ := E
  obtain ⟨v, T', L, X', hQ, st⟩ := own_out (X.privateBack hx hown (mvT hZ w1) (mvT hZ w2) w3 (Cond.privateMethod_at (mvP hZ w4 (args := #[]))) (mvT hZ wc) hb.1 (backOf (W := W) hM hZ wc wz hb.2.1 hb.2.2.1) (g := mkF m pc ls (argsL.reverse ++ .ref b :: rest)) rfl hsz (Steps.refl _) (a := b) (cell := cq) (by rw [eT]; exact q1) (fun q w => by rw [w] at q4; cases q4) (argsL := argsL) (rest := rest) hlen rfl (Nat.le_of_eq hW) hd (fun _ _ => ⟨rfl, eT, hb.2.2.2.1, hb.2.2.2.2⟩))
  exact own_go (T' := T') (f' := mkF m (pc + 3) ls (v.toList ++ rest)) (fun t k => st.trans k) (K v T' L X' hQ)
theorem own_cN (X : Stand p l e R s m args below meth c T locs cells slots) (hx : p.tables.exec = Jvm.exec) (hZ : Z.Warmed39 s.vm) (hown : s.vm.findClass own = some m.cls) (eT : T.heap = h) (hn : y.name = "<init>") (w1 : (Cond.methodLink own idx y).before a0 Z = true) (w2 : (Cond.instanceMethod y).before a0 Z = true) (wz : (Cond.initialized y.cls).before a0 Z = true) (wc : (Cond.code y bytes ml none).before a0 Z = true) (hsz : ls.size = c.maxLocals) (hd : decode c.code pc = .ok (.invokespecial idx, 3)) (hlen : ∀ sig, parseMethodDescriptor y.desc = some sig → argsL.length = sig.parameters.length) (hW : 2 * 0 + (rest.map fun v => v.category).sum = W) (hb : (y.cls ≠ "java/lang/invoke/MethodHandle" ∧ y.cls ≠ "java/lang/invoke/VarHandle") ∧ rm.frames + 1 ≤ R.frames ∧ W + (ml + 11) + rm.locals ≤ R.locals ∧ cells + rm.cells ≤ R.cells ∧ slots + rm.slots ≤ R.slots) (hM : own_Met l y bytes ml none [] rm (.ref b :: argsL).toArray Z h Q')
    (K : ∀ v T' L, Stand p l e R s m args below meth c T' (locs ++ L) (cells + rm.cells) (slots + rm.slots) → Q' v T'.heap L → own_Ends p e below s Q cc nn T' (mkF m (pc + 3) ls (v.toList ++ rest))) :
    own_Ends p e below s Q cc nn T (mkF m pc ls (argsL.reverse ++ .ref b :: rest)) := by
  obtain ⟨v, T', L, X', hQ, st⟩ := own_out (X.specialBack hx hn hown (mvT hZ w1) (mvT hZ w2) (mvT hZ wc) hb.1 (backOf (W := W) hM hZ wc wz hb.2.1 hb.2.2.1) (g := mkF m pc ls (argsL.reverse ++ .ref b :: rest)) rfl hsz (Steps.refl _) (a := b) (argsL := argsL) (rest := rest) hlen rfl (Nat.le_of_eq hW) hd (fun _ _ => ⟨rfl, eT, hb.2.2.2.1, hb.2.2.2.2⟩))
  exact own_go (T' := T') (f' := mkF m (pc + 3) ls (v.toList ++ rest)) (fun t k => st.trans k) (K v T' L X' hQ)
end Calls
section Mem
variable {p : Program} {l : Launch} {e : Env} {R : Room} {s : State} {m : MethodId} {args : Array Value} {below : List Frame} {meth : Method} {c : Code} {T : State} {locs : List Loc} {cells slots cc nn : Nat} {Q : Option Value → Heap → List Loc → Prop} {Z : State} {h h' : Heap} {a0 : Array Value} {own : String} {n0 : Nat}
/-- addresses by number: the k-th of a list -/
def rnV (as : List Addr) (v : Value) : Value := match v with
  | .ref k => .ref (as.getD k 0)
  | v => v
def rnS (as : List Addr) (s : Slot) : Slot := match s with
  | .val v => .val (rnV as v)
  | s => s
abbrev rnF (m : MethodId) (as : List Addr) (pc : Nat) (ls : Array Slot) (st : List Value) : JFrame := mkF m pc (ls.map (rnS as)) (st.map (rnV as))
abbrev own_Me := List (Nat × FieldType × Int32 × List Value)
abbrev own_Fe := List (Nat × Nat × String × String × String × Value)
def own_dv (ty : FieldType) : Value := match ty with
  | .long => .long 0
  | .int => .int 0
  | .boolean => .int 0
  | _ => .null
def own_MO (Z : State) (h : Heap) (as : List Addr) (kc : List ClassId) : own_Me → Prop
  | [] => True
  | q :: r => Arv Z h (as.getD q.1 0) (kc.getD q.1 0) q.2.1 q.2.2.1 (q.2.2.2.map (rnV as)) (own_dv q.2.1) ∧ own_MO Z h as kc r
def own_FO (Z : State) (h : Heap) (as : List Addr) : own_Fe → Prop
  | [] => True
  | q :: r => Fld Z h (as.getD q.1 0) q.2.2.1 q.2.2.2.1 q.2.2.2.2.1 (rnV as q.2.2.2.2.2) ∧ own_FO Z h as r
def own_lk (k : Nat) : own_Me → Option (FieldType × Int32 × List Value)
  | [] => none
  | q :: r => bif Nat.beq k q.1 then some q.2 else own_lk k r
def own_up (k : Nat) (vs : List Value) : own_Me → own_Me
  | [] => []
  | q :: r => bif Nat.beq k q.1 then (q.1, q.2.1, q.2.2.1, vs) :: r else q :: own_up k vs r
def own_lf (k i : Nat) : own_Fe → Option Value
  | [] => none
  | q :: r => bif Nat.beq k q.1 && Nat.beq i q.2.1 then some q.2.2.2.2.2 else own_lf k i r
variable {pc k n : Nat} {ls : Array Slot} {st : List Value} {r : Nat × Array Slot × List Value} {as : List Addr}
theorem own_cat (v : Value) : (rnV as v).category = v.category := by cases v <;> rfl
theorem own_gm {x : Slot} (hl : ls[k]? = some x) : (ls.map (rnS as))[k]? = some (rnS as x) := by rw [Array.getElem?_map, hl]; rfl
theorem own_store1 {l l' : Array Slot} {i : Nat} {v : Value} {o : Slot} (hold : l[i]? = some o) (ho : o = .unset ∨ ∃ w, o = .val w ∧ w.category = 1) (hv : v.category = 1) (hh : storeLocals l i v = some l') : storeLocals (l.map (rnS as)) i (rnV as v) = some (l'.map (rnS as)) := by
  rw [XS.store1 hold ho hv] at hh
  cases hh
  have h2 : (l.map (rnS as))[i]? = some (rnS as o) := own_gm hold
  rw [XS.store1 h2 (by rcases ho with rfl | ⟨w, rfl, hw⟩; exact Or.inl rfl; exact Or.inr ⟨_, rfl, by rw [own_cat]; exact hw⟩) (by rw [own_cat]; exact hv), Array.map_setIfInBounds]
  rfl
theorem own_setAt {l l' : Array Slot} {i : Nat} {x : Slot} (hh : setAt l i x = some l') : setAt (l.map (rnS as)) i (rnS as x) = some (l'.map (rnS as)) := by
  have e : ∀ (l : Array Slot) (x : Slot), setAt l i x = if i < l.size then some (l.setIfInBounds i x) else none := fun _ _ => rfl
  rw [e] at hh ⊢
  rw [Array.size_map]
  by_cases q : i < l.size
  · rw [if_pos q] at hh ⊢; cases hh; rw [Array.map_setIfInBounds]
  · rw [if_neg q] at hh; exact nomatch hh
theorem own_ss {l l' : Array Slot} {i : Nat} {x : Int64} (hh : storeSelf l i (.long x) = some l') : storeSelf (l.map (rnS as)) i (.long x) = some (l'.map (rnS as)) := by
  have e : ∀ (l : Array Slot), storeSelf l i (.long x) = (setAt l i (.val (.long x))).bind fun l => (l[i + 1]?).bind fun o => match o with
    | .val old => if old.category = 2 then (setAt l (i + 2) .unset).bind fun l => setAt l (i + 1) .second else setAt l (i + 1) .second
    | _ => setAt l (i + 1) .second := fun _ => rfl
  rw [e] at hh ⊢
  obtain ⟨l1, h1, h2⟩ := Option.bind_eq_some_iff.mp hh
  obtain ⟨o, h3, h4⟩ := Option.bind_eq_some_iff.mp h2
  refine Option.bind_eq_some_iff.mpr ⟨l1.map (rnS as), own_setAt h1, Option.bind_eq_some_iff.mpr ⟨rnS as o, own_gm h3, ?_⟩⟩
  cases o with
  | unset => exact own_setAt h4
  | second => exact own_setAt h4
  | val w =>
    have h4' : (if w.category = 2 then (setAt l1 (i + 2) .unset).bind fun l => setAt l (i + 1) .second else setAt l1 (i + 1) .second) = some l' := h4
    show (if (rnV as w).category = 2 then (setAt (l1.map (rnS as)) (i + 2) .unset).bind fun l => setAt l (i + 1) .second else setAt (l1.map (rnS as)) (i + 1) .second) = _
    rw [own_cat]
    by_cases q : w.category = 2
    · rw [if_pos q] at h4' ⊢
      obtain ⟨l2, h5, h6⟩ := Option.bind_eq_some_iff.mp h4'
      exact Option.bind_eq_some_iff.mpr ⟨l2.map (rnS as), own_setAt h5, own_setAt h6⟩
    · rw [if_neg q] at h4' ⊢; exact own_setAt h4'
theorem own_sl {l l' : Array Slot} {i : Nat} {x : Int64} (hh : storeLocals l i (.long x) = some l') : storeLocals (l.map (rnS as)) i (.long x) = some (l'.map (rnS as)) := by
  have e : ∀ (l : Array Slot), storeLocals l i (.long x) = (l[i]?).bind fun o => match o with
    | .second => (setAt l (i - 1) .unset).bind fun l => storeSelf l i (.long x)
    | .val old => if old.category = 2 then (setAt l (i + 1) .unset).bind fun l => storeSelf l i (.long x) else storeSelf l i (.long x)
    | .unset => storeSelf l i (.long x) := fun _ => rfl
  rw [e] at hh ⊢
  obtain ⟨o, h3, h4⟩ := Option.bind_eq_some_iff.mp hh
  refine Option.bind_eq_some_iff.mpr ⟨rnS as o, own_gm h3, ?_⟩
  cases o with
  | unset => exact own_ss h4
  | second =>
    obtain ⟨l2, h5, h6⟩ := Option.bind_eq_some_iff.mp h4
    exact Option.bind_eq_some_iff.mpr ⟨l2.map (rnS as), own_setAt h5, own_ss h6⟩
  | val w =>
    have h4' : (if w.category = 2 then (setAt l (i + 1) .unset).bind fun l => storeSelf l i (.long x) else storeSelf l i (.long x)) = some l' := h4
    show (if (rnV as w).category = 2 then (setAt (l.map (rnS as)) (i + 1) .unset).bind fun l => storeSelf l i (.long x) else storeSelf (l.map (rnS as)) i (.long x)) = _
    rw [own_cat]
    by_cases q : w.category = 2
    · rw [if_pos q] at h4' ⊢
      obtain ⟨l2, h5, h6⟩ := Option.bind_eq_some_iff.mp h4'
      exact Option.bind_eq_some_iff.mpr ⟨l2.map (rnS as), own_setAt h5, own_ss h6⟩
    · rw [if_neg q] at h4' ⊢; exact own_ss h4'
def own_o1 (o : Option Slot) : Bool := match o with
  | some .unset => true
  | some (.val w) => Nat.beq w.category 1
  | _ => false
theorem own_o1_ok {o : Option Slot} (hh : own_o1 o = true) : ∃ x, o = some x ∧ (x = .unset ∨ ∃ w, x = .val w ∧ w.category = 1) := by
  unfold own_o1 at hh
  split at hh
  · exact ⟨_, rfl, Or.inl rfl⟩
  · exact ⟨_, rfl, Or.inr ⟨_, rfl, Nat.eq_of_beq_eq_true hh⟩⟩
  · exact nomatch hh
def own_ck (b : Bool) (q : own_R) : own_R := bif b then q else none
theorem own_ck_ok {b : Bool} {q : own_R} (hh : own_ck b q = some r) : b = true ∧ q = some r := by
  cases b
  · exact nomatch hh
  · exact ⟨rfl, hh⟩
theorem own_jmp_mk {o : Int} (w : 0 ≤ (pc : Int) + o) : own_jmp pc ls st o = some (((pc : Int) + o).toNat, ls, st) := by
  unfold own_jmp
  split
  · rename_i n q; rw [q]; rfl
  · rename_i n q; rw [q] at w; exact absurd w (by omega)
def own_ps (i : Instr) (ln pc : Nat) (ls : Array Slot) (st : List Value) : own_R := match i with
  | .istore k => own_ck (own_o1 ls[k]?) (own_step (.istore k) ln pc ls st)
  | .istore_n k => own_ck (own_o1 ls[k.val]?) (own_step (.istore_n k) ln pc ls st)
  | .astore k => own_ck (own_o1 ls[k]?) (own_step (.astore k) ln pc ls st)
  | .astore_n k => own_ck (own_o1 ls[k.val]?) (own_step (.astore_n k) ln pc ls st)
  | i => own_step i ln pc ls st
theorem own_eqv {ln : Nat} (i : Instr) (h : own_ps i ln pc ls st = some r) : own_step i ln pc (ls.map (rnS as)) (st.map (rnV as)) = some (r.1, r.2.1.map (rnS as), r.2.2.map (rnV as)) := by
  cases i
  case iload k =>
    obtain ⟨rfl, h⟩ := own_g_ok h
    obtain ⟨v, hl, rfl⟩ := own_ldi_ok h
    show own_ldi pc (ls.map (rnS as)) (st.map (rnV as)) k 2 = _
    unfold own_ldi; rw [own_gm hl]; rfl
  case iload_n k =>
    obtain ⟨rfl, h⟩ := own_g_ok h
    obtain ⟨v, hl, rfl⟩ := own_ldi_ok h
    show own_ldi pc (ls.map (rnS as)) (st.map (rnV as)) k.val 1 = _
    unfold own_ldi; rw [own_gm hl]; rfl
  case lload k =>
    obtain ⟨rfl, h⟩ := own_g_ok h
    obtain ⟨v, hl, rfl⟩ := own_ldl_ok h
    show own_ldl pc (ls.map (rnS as)) (st.map (rnV as)) k 2 = _
    unfold own_ldl; rw [own_gm hl]; rfl
  case lload_n k =>
    obtain ⟨rfl, h⟩ := own_g_ok h
    obtain ⟨v, hl, rfl⟩ := own_ldl_ok h
    show own_ldl pc (ls.map (rnS as)) (st.map (rnV as)) k.val 1 = _
    unfold own_ldl; rw [own_gm hl]; rfl
  case aload k =>
    obtain ⟨rfl, h⟩ := own_g_ok h
    obtain ⟨v, hl, hv, rfl⟩ := own_lda_ok h
    show own_lda pc (ls.map (rnS as)) (st.map (rnV as)) k 2 = _
    cases v <;> first | (cases hv; done) | (unfold own_lda; rw [own_gm hl]; rfl)
  case aload_n k =>
    obtain ⟨rfl, h⟩ := own_g_ok h
    obtain ⟨v, hl, hv, rfl⟩ := own_lda_ok h
    show own_lda pc (ls.map (rnS as)) (st.map (rnV as)) k.val 1 = _
    cases v <;> first | (cases hv; done) | (unfold own_lda; rw [own_gm hl]; rfl)
  case istore k =>
    obtain ⟨b, h⟩ := own_ck_ok h
    obtain ⟨x, hx, hy⟩ := own_o1_ok b
    obtain ⟨rfl, h⟩ := own_g_ok h
    obtain ⟨v, u, l', rfl, hl, rfl⟩ := own_sti_ok h
    have e := own_store1 (as := as) hx hy rfl hl
    show (match storeLocals (ls.map (rnS as)) k (.int v) with | some l' => some (pc + 2, l', u.map (rnV as)) | none => none) = _
    have e' : storeLocals (ls.map (rnS as)) k (.int v) = some (l'.map (rnS as)) := e
    rw [e']
  case istore_n k =>
    obtain ⟨b, h⟩ := own_ck_ok h
    obtain ⟨x, hx, hy⟩ := own_o1_ok b
    obtain ⟨rfl, h⟩ := own_g_ok h
    obtain ⟨v, u, l', rfl, hl, rfl⟩ := own_sti_ok h
    have e := own_store1 (as := as) hx hy rfl hl
    show (match storeLocals (ls.map (rnS as)) k.val (.int v) with | some l' => some (pc + 1, l', u.map (rnV as)) | none => none) = _
    have e' : storeLocals (ls.map (rnS as)) k.val (.int v) = some (l'.map (rnS as)) := e
    rw [e']
  case astore k =>
    obtain ⟨b, h⟩ := own_ck_ok h
    obtain ⟨x, hx, hy⟩ := own_o1_ok b
    obtain ⟨rfl, h⟩ := own_g_ok h
    obtain ⟨v, u, l', rfl, hv, hl, rfl⟩ := own_sta_ok h
    rcases ref_cases hv with rfl | ⟨a, rfl⟩
    · have e : storeLocals (ls.map (rnS as)) k .null = some (l'.map (rnS as)) := own_store1 (as := as) hx hy rfl hl
      show (match storeLocals (ls.map (rnS as)) k .null with | some l' => some (pc + 2, l', u.map (rnV as)) | none => none) = _
      rw [e]
    · have e : storeLocals (ls.map (rnS as)) k (.ref (as.getD a 0)) = some (l'.map (rnS as)) := own_store1 (as := as) hx hy rfl hl
      show (match storeLocals (ls.map (rnS as)) k (.ref (as.getD a 0)) with | some l' => some (pc + 2, l', u.map (rnV as)) | none => none) = _
      rw [e]
  case astore_n k =>
    obtain ⟨b, h⟩ := own_ck_ok h
    obtain ⟨x, hx, hy⟩ := own_o1_ok b
    obtain ⟨rfl, h⟩ := own_g_ok h
    obtain ⟨v, u, l', rfl, hv, hl, rfl⟩ := own_sta_ok h
    rcases ref_cases hv with rfl | ⟨a, rfl⟩
    · have e : storeLocals (ls.map (rnS as)) k.val .null = some (l'.map (rnS as)) := own_store1 (as := as) hx hy rfl hl
      show (match storeLocals (ls.map (rnS as)) k.val .null with | some l' => some (pc + 1, l', u.map (rnV as)) | none => none) = _
      rw [e]
    · have e : storeLocals (ls.map (rnS as)) k.val (.ref (as.getD a 0)) = some (l'.map (rnS as)) := own_store1 (as := as) hx hy rfl hl
      show (match storeLocals (ls.map (rnS as)) k.val (.ref (as.getD a 0)) with | some l' => some (pc + 1, l', u.map (rnV as)) | none => none) = _
      rw [e]
  case lstore k =>
    obtain ⟨rfl, h⟩ := own_g_ok h
    obtain ⟨v, u, l', rfl, hl, rfl⟩ := own_stl_ok h
    have e' : storeLocals (ls.map (rnS as)) k (.long v) = some (l'.map (rnS as)) := own_sl hl
    show (match storeLocals (ls.map (rnS as)) k (.long v) with | some l' => some (pc + 2, l', u.map (rnV as)) | none => none) = _
    rw [e']
  case lstore_n k =>
    obtain ⟨rfl, h⟩ := own_g_ok h
    obtain ⟨v, u, l', rfl, hl, rfl⟩ := own_stl_ok h
    have e' : storeLocals (ls.map (rnS as)) k.val (.long v) = some (l'.map (rnS as)) := own_sl hl
    show (match storeLocals (ls.map (rnS as)) k.val (.long v) with | some l' => some (pc + 1, l', u.map (rnV as)) | none => none) = _
    rw [e']
  case iconst i =>
    obtain ⟨rfl, h⟩ := own_g_ok h
    obtain rfl := Option.some.inj h
    rfl
  case bipush i =>
    obtain ⟨rfl, h⟩ := own_g_ok h
    obtain rfl := Option.some.inj h
    rfl
  case sipush i =>
    obtain ⟨rfl, h⟩ := own_g_ok h
    obtain rfl := Option.some.inj h
    rfl
  case lconst i =>
    obtain ⟨rfl, h⟩ := own_g_ok h
    obtain rfl := Option.some.inj h
    rfl
  case aconst_null =>
    obtain ⟨rfl, h⟩ := own_g_ok h
    obtain rfl := Option.some.inj h
    rfl
  case iadd =>
    obtain ⟨rfl, h⟩ := own_g_ok h
    obtain ⟨x, y, u, rfl, rfl⟩ := own_bii_ok h
    rfl
  case isub =>
    obtain ⟨rfl, h⟩ := own_g_ok h
    obtain ⟨x, y, u, rfl, rfl⟩ := own_bii_ok h
    rfl
  case imul =>
    obtain ⟨rfl, h⟩ := own_g_ok h
    obtain ⟨x, y, u, rfl, rfl⟩ := own_bii_ok h
    rfl
  case iand =>
    obtain ⟨rfl, h⟩ := own_g_ok h
    obtain ⟨x, y, u, rfl, rfl⟩ := own_bii_ok h
    rfl
  case ior =>
    obtain ⟨rfl, h⟩ := own_g_ok h
    obtain ⟨x, y, u, rfl, rfl⟩ := own_bii_ok h
    rfl
  case ixor =>
    obtain ⟨rfl, h⟩ := own_g_ok h
    obtain ⟨x, y, u, rfl, rfl⟩ := own_bii_ok h
    rfl
  case ishl =>
    obtain ⟨rfl, h⟩ := own_g_ok h
    obtain ⟨x, y, u, rfl, rfl⟩ := own_bii_ok h
    rfl
  case ishr =>
    obtain ⟨rfl, h⟩ := own_g_ok h
    obtain ⟨x, y, u, rfl, rfl⟩ := own_bii_ok h
    rfl
  case iushr =>
    obtain ⟨rfl, h⟩ := own_g_ok h
    obtain ⟨x, y, u, rfl, rfl⟩ := own_bii_ok h
    rfl
  case ladd =>
    obtain ⟨rfl, h⟩ := own_g_ok h
    obtain ⟨x, y, u, rfl, rfl⟩ := own_bll_ok h
    rfl
  case lsub =>
    obtain ⟨rfl, h⟩ := own_g_ok h
    obtain ⟨x, y, u, rfl, rfl⟩ := own_bll_ok h
    rfl
  case lmul =>
    obtain ⟨rfl, h⟩ := own_g_ok h
    obtain ⟨x, y, u, rfl, rfl⟩ := own_bll_ok h
    rfl
  case land =>
    obtain ⟨rfl, h⟩ := own_g_ok h
    obtain ⟨x, y, u, rfl, rfl⟩ := own_bll_ok h
    rfl
  case lor =>
    obtain ⟨rfl, h⟩ := own_g_ok h
    obtain ⟨x, y, u, rfl, rfl⟩ := own_bll_ok h
    rfl
  case lxor =>
    obtain ⟨rfl, h⟩ := own_g_ok h
    obtain ⟨x, y, u, rfl, rfl⟩ := own_bll_ok h
    rfl
  case lshl =>
    obtain ⟨rfl, h⟩ := own_g_ok h
    obtain ⟨x, y, u, rfl, rfl⟩ := own_bli_ok h
    rfl
  case lshr =>
    obtain ⟨rfl, h⟩ := own_g_ok h
    obtain ⟨x, y, u, rfl, rfl⟩ := own_bli_ok h
    rfl
  case lushr =>
    obtain ⟨rfl, h⟩ := own_g_ok h
    obtain ⟨x, y, u, rfl, rfl⟩ := own_bli_ok h
    rfl
  case lcmp =>
    obtain ⟨rfl, h⟩ := own_g_ok h
    obtain ⟨x, y, u, rfl, rfl⟩ := own_bci_ok h
    rfl
  case ineg =>
    obtain ⟨rfl, h⟩ := own_g_ok h
    obtain ⟨x, u, rfl, rfl⟩ := own_uii_ok h
    rfl
  case lneg =>
    obtain ⟨rfl, h⟩ := own_g_ok h
    obtain ⟨x, u, rfl, rfl⟩ := own_ull_ok h
    rfl
  case i2l =>
    obtain ⟨rfl, h⟩ := own_g_ok h
    obtain ⟨x, u, rfl, rfl⟩ := own_uil_ok h
    rfl
  case l2i =>
    obtain ⟨rfl, h⟩ := own_g_ok h
    obtain ⟨x, u, rfl, rfl⟩ := own_uli_ok h
    rfl
  case i2b =>
    obtain ⟨rfl, h⟩ := own_g_ok h
    obtain ⟨x, u, rfl, rfl⟩ := own_uii_ok h
    rfl
  case i2s =>
    obtain ⟨rfl, h⟩ := own_g_ok h
    obtain ⟨x, u, rfl, rfl⟩ := own_uii_ok h
    rfl
  case i2c =>
    obtain ⟨rfl, h⟩ := own_g_ok h
    obtain ⟨x, u, rfl, rfl⟩ := own_uii_ok h
    rfl
  case iinc k z =>
    obtain ⟨rfl, h⟩ := own_g_ok h
    obtain ⟨x, l', hl, hl', rfl⟩ := own_inc_ok h
    have e := own_store1 (as := as) hl (Or.inr ⟨_, rfl, rfl⟩) rfl hl'
    have e' : storeLocals (ls.map (rnS as)) k (.int (x + Int32.ofInt z)) = some (l'.map (rnS as)) := e
    show own_inc pc (ls.map (rnS as)) (st.map (rnV as)) k z = _
    unfold own_inc; rw [own_gm hl]
    show (match storeLocals (ls.map (rnS as)) k (.int (x + Int32.ofInt z)) with | some l' => some (pc + 3, l', (st.map (rnV as))) | none => none) = _
    rw [e']
  case dup =>
    obtain ⟨rfl, h⟩ := own_g_ok h
    obtain ⟨x, u, rfl, w, rfl⟩ := own_dp1_ok h
    show own_g (rnV as x).category 1 _ = _
    rw [own_cat, w]; rfl
  case pop =>
    obtain ⟨rfl, h⟩ := own_g_ok h
    obtain ⟨x, u, rfl, w, rfl⟩ := own_pp1_ok h
    show own_g (rnV as x).category 1 _ = _
    rw [own_cat, w]; rfl
  case dup_x1 =>
    obtain ⟨rfl, h⟩ := own_g_ok h
    obtain ⟨x, y, u, rfl, w, w', rfl⟩ := own_dx1_ok h
    show own_g (rnV as x).category 1 (own_g (rnV as y).category 1 _) = _
    rw [own_cat, own_cat, w, w']; rfl
  case dup2 =>
    obtain ⟨rfl, h⟩ := own_g_ok h
    obtain ⟨x, y, u, rfl, w, w', rfl⟩ := own_dp2_ok h
    show own_g (rnV as x).category 1 (own_g (rnV as y).category 1 _) = _
    rw [own_cat, own_cat, w, w']; rfl
  case goto o =>
    obtain ⟨rfl, h⟩ := own_g_ok h
    obtain ⟨w, rfl⟩ := own_jmp_ok h
    exact own_jmp_mk w
  case ifCond cd o =>
    obtain ⟨rfl, h⟩ := own_g_ok h
    obtain ⟨x, u, rfl, ⟨w, w', rfl⟩ | ⟨w, rfl⟩⟩ := own_ifc_ok h
    · show (match ifCond.holds cd x with | true => own_jmp pc (ls.map (rnS as)) (u.map (rnV as)) o | false => some (pc + 3, (ls.map (rnS as)), u.map (rnV as))) = _
      rw [w]; exact own_jmp_mk w'
    · show (match ifCond.holds cd x with | true => own_jmp pc (ls.map (rnS as)) (u.map (rnV as)) o | false => some (pc + 3, (ls.map (rnS as)), u.map (rnV as))) = _
      rw [w]
  case if_icmp cd o =>
    obtain ⟨rfl, h⟩ := own_g_ok h
    obtain ⟨x, y, u, rfl, ⟨w, w', rfl⟩ | ⟨w, rfl⟩⟩ := own_icm_ok h
    · show (match if_icmp.holds cd x y with | true => own_jmp pc (ls.map (rnS as)) (u.map (rnV as)) o | false => some (pc + 3, (ls.map (rnS as)), u.map (rnV as))) = _
      rw [w]; exact own_jmp_mk w'
    · show (match if_icmp.holds cd x y with | true => own_jmp pc (ls.map (rnS as)) (u.map (rnV as)) o | false => some (pc + 3, (ls.map (rnS as)), u.map (rnV as))) = _
      rw [w]
  case ifnull o =>
    obtain ⟨rfl, h⟩ := own_g_ok h
    obtain ⟨u, ⟨rfl, w', rfl⟩ | ⟨b, rfl, rfl⟩⟩ := own_ifn_ok h
    · exact own_jmp_mk w'
    · rfl
  case ifnonnull o =>
    obtain ⟨rfl, h⟩ := own_g_ok h
    obtain ⟨u, ⟨b, rfl, w', rfl⟩ | ⟨rfl, rfl⟩⟩ := own_inn_ok h
    · exact own_jmp_mk w'
    · rfl
  all_goals exact nomatch (show (none : own_R) = some _ from h)
def own_LK (Z : State) (a0 : Array Value) (own : String) : own_Fe → Prop
  | [] => True
  | q :: r => (Cond.fieldLink own q.2.1 q.2.2.1 q.2.2.2.1 q.2.2.2.2.1).before a0 Z = true ∧ own_LK Z a0 own r
def own_LC (Z : State) (a0 : Array Value) (own : String) : List (Nat × Int64) → Prop
  | [] => True
  | q :: r => (Cond.constantLong own q.1 q.2).before a0 Z = true ∧ own_LC Z a0 own r
def own_lc (i : Nat) : List (Nat × Int64) → Option Int64
  | [] => none
  | q :: r => bif Nat.beq i q.1 then some q.2 else own_lc i r
theorem own_LC_get {cl : List (Nat × Int64)} (L : own_LC Z a0 own cl) {x : Nat} {v : Int64} (g : own_lc x cl = some v) : (Cond.constantLong own x v).before a0 Z = true := by
  induction cl with
  | nil => exact nomatch g
  | cons q r ih =>
    unfold own_lc at g
    cases w : Nat.beq x q.1 with
    | true =>
      rw [w] at g
      have g' : some q.2 = some v := g
      cases g'
      have e1 := Nat.eq_of_beq_eq_true w
      subst e1
      exact L.1
    | false => rw [w] at g; exact ih L.2 g
def own_WO (n0 : Nat) (as : List Addr) : List Nat → Prop
  | [] => True
  | k :: r => n0 ≤ as.getD k 0 ∧ own_WO n0 as r
def own_Inc : List Addr → Prop
  | [] => True
  | [_] => True
  | a :: b :: r => a < b ∧ own_Inc (b :: r)
theorem own_inc_tl {a : Addr} : ∀ {r : List Addr}, own_Inc (a :: r) → own_Inc r
  | [], _ => trivial
  | _ :: _, I => I.2
theorem own_inc_hd : ∀ (r : List Addr) (a : Addr), own_Inc (a :: r) → ∀ j, j < r.length → a < r.getD j 0
  | [], _, _, _, q => nomatch q
  | _ :: _, _, I, 0, _ => I.1
  | b :: r, _, I, j + 1, q => Nat.lt_trans I.1 (own_inc_hd r b I.2 j (Nat.lt_of_succ_lt_succ q))
theorem own_inc_lt : ∀ (as : List Addr), own_Inc as → ∀ i j, i < j → j < as.length → as.getD i 0 < as.getD j 0
  | [], _, _, _, _, q => nomatch q
  | a :: r, I, 0, j + 1, _, q => own_inc_hd r a I j (Nat.lt_of_succ_lt_succ q)
  | _ :: r, I, i + 1, j + 1, w, q => own_inc_lt r (own_inc_tl I) i j (Nat.lt_of_succ_lt_succ w) (Nat.lt_of_succ_lt_succ q)
theorem own_inc_ne {as : List Addr} (I : own_Inc as) {i j : Nat} (hi : i < as.length) (hj : j < as.length) (q : i ≠ j) : as.getD i 0 ≠ as.getD j 0 := by
  rcases Nat.lt_or_gt_of_ne q with w | w
  · exact Nat.ne_of_lt (own_inc_lt as I i j w hj)
  · exact Nat.ne_of_gt (own_inc_lt as I j i w hi)
theorem own_WO_get {wl : List Nat} (w : own_WO n0 as wl) {k : Nat} (q : k ∈ wl) : n0 ≤ as.getD k 0 := by
  induction wl with
  | nil => exact nomatch q
  | cons a r ih =>
    rcases List.mem_cons.mp q with rfl | q
    · exact w.1
    · exact ih w.2 q
theorem own_FO_get {fl : own_Fe} (F : own_FO Z h as fl) (L : own_LK Z a0 own fl) {k x : Nat} {v : Value} (g : own_lf k x fl = some v) : ∃ C n d, Fld Z h (as.getD k 0) C n d (rnV as v) ∧ (Cond.fieldLink own x C n d).before a0 Z = true := by
  induction fl with
  | nil => exact nomatch g
  | cons q r ih =>
    unfold own_lf at g
    cases w : (Nat.beq k q.1 && Nat.beq x q.2.1) with
    | true =>
      rw [w] at g
      have g' : some q.2.2.2.2.2 = some v := g
      cases g'
      obtain ⟨w1, w2⟩ := (Bool.and_eq_true _ _).mp w
      have e1 := Nat.eq_of_beq_eq_true w1
      have e2 := Nat.eq_of_beq_eq_true w2
      subst e1 e2
      exact ⟨_, _, _, F.1, L.1⟩
    | false => rw [w] at g; exact ih F.2 L.2 g
theorem own_MO_get {kc : List ClassId} {me : own_Me} (M : own_MO Z h as kc me) {k : Nat} {t : FieldType × Int32 × List Value} (g : own_lk k me = some t) : Arv Z h (as.getD k 0) (kc.getD k 0) t.1 t.2.1 (t.2.2.map (rnV as)) (own_dv t.1) ∧ k ∈ me.map (·.1) := by
  induction me with
  | nil => exact nomatch g
  | cons q r ih =>
    unfold own_lk at g
    cases w : Nat.beq k q.1 with
    | true =>
      rw [w] at g
      have g' : some q.2 = some t := g
      cases g'
      have e1 := Nat.eq_of_beq_eq_true w
      subst e1
      exact ⟨M.1, List.mem_cons_self ..⟩
    | false => rw [w] at g; exact ⟨(ih M.2 g).1, List.mem_cons_of_mem _ (ih M.2 g).2⟩
theorem own_up_keys {k : Nat} {vs : List Value} {me : own_Me} : (own_up k vs me).map (·.1) = me.map (·.1) := by
  induction me with
  | nil => rfl
  | cons q r ih =>
    unfold own_up
    cases w : Nat.beq k q.1 with
    | true => rfl
    | false => show q.1 :: (own_up k vs r).map (·.1) = q.1 :: r.map (·.1); rw [ih]
theorem own_MO_oth {kc : List ClassId} {me : own_Me} (M : own_MO Z h as kc me) {a : Addr} {sl : Nat} {v : Value} (W : Wr h h' a sl v) (hne : ∀ j ∈ me.map (·.1), as.getD j 0 ≠ a) : own_MO Z h' as kc me := by
  induction me with
  | nil => trivial
  | cons q r ih => exact ⟨M.1.other W (hne q.1 (List.mem_cons_self ..)), ih M.2 fun j hj => hne j (List.mem_cons_of_mem _ hj)⟩
theorem own_FO_oth {fl : own_Fe} (F : own_FO Z h as fl) {a : Addr} {sl : Nat} {v : Value} (W : Wr h h' a sl v) (hne : ∀ j ∈ fl.map (·.1), as.getD j 0 ≠ a) : own_FO Z h' as fl := by
  induction fl with
  | nil => trivial
  | cons q r ih => exact ⟨Fld.other W F.1 (Or.inl (hne q.1 (List.mem_cons_self ..))), ih F.2 fun j hj => hne j (List.mem_cons_of_mem _ hj)⟩
theorem own_MO_up {kc : List ClassId} {me : own_Me} (M : own_MO Z h as kc me) (hnd : (me.map (·.1)).Nodup) {k sl : Nat} {t : FieldType × Int32 × List Value} {v : Value} (g : own_lk k me = some t) (hne : ∀ j ∈ me.map (·.1), j ≠ k → as.getD j 0 ≠ as.getD k 0) (W : Wr h h' (as.getD k 0) sl v) {vs : List Value} (V : Arv Z h' (as.getD k 0) (kc.getD k 0) t.1 t.2.1 (vs.map (rnV as)) (own_dv t.1)) : own_MO Z h' as kc (own_up k vs me) := by
  induction me with
  | nil => trivial
  | cons q r ih =>
    obtain ⟨hn1, hn2⟩ := List.nodup_cons.mp hnd
    unfold own_up
    unfold own_lk at g
    cases w : Nat.beq k q.1 with
    | true =>
      rw [w] at g
      have g' : some q.2 = some t := g
      cases g'
      have e1 := Nat.eq_of_beq_eq_true w
      subst e1
      exact ⟨V, own_MO_oth M.2 W fun j hj => hne j (List.mem_cons_of_mem _ hj) (fun e => hn1 (by show q.1 ∈ r.map (·.1); rw [← e]; exact hj))⟩
    | false =>
      rw [w] at g
      have n1 : q.1 ≠ k := fun e => by rw [e, Nat.beq_refl] at w; cases w
      exact ⟨M.1.other W (hne q.1 (List.mem_cons_self ..) n1), ih M.2 hn2 g fun j hj => hne j (List.mem_cons_of_mem _ hj)⟩
theorem own_rdv (ty : FieldType) : rnV as (own_dv ty) = own_dv ty := by cases ty <;> rfl
theorem own_gD {vs : List Value} {i : Nat} {ty : FieldType} : (vs.map (rnV as)).getD i (own_dv ty) = rnV as (vs.getD i (own_dv ty)) := by
  rw [List.getD_eq_getElem?_getD, List.getD_eq_getElem?_getD, List.getElem?_map]
  cases vs[i]? with
  | none => exact (own_rdv ty).symm
  | some x => rfl
def own_in (j z : Int32) (vs : List Value) : Bool := !decide (j < 0) && decide (j < z) && Nat.blt j.toNatClampNeg vs.length
theorem own_in_ok {j z : Int32} {vs : List Value} (q : own_in j z vs = true) : (¬ j < 0 ∧ j < z) ∧ j.toNatClampNeg < vs.length := by
  unfold own_in at q
  obtain ⟨q1, q2⟩ := (Bool.and_eq_true _ _).mp q
  obtain ⟨q3, q4⟩ := (Bool.and_eq_true _ _).mp q1
  exact ⟨⟨(fun w => by rw [decide_eq_true w] at q3; cases q3), of_decide_eq_true q4⟩, Nat.le_of_ble_eq_true q2⟩
abbrev own_MR := Option (Nat × Array Slot × List Value × own_Me)
def own_mg (b : Bool) (q : own_MR) : own_MR := bif b then q else none
theorem own_mg_ok {b : Bool} {q : own_MR} {t : Nat × Array Slot × List Value × own_Me} (hh : own_mg b q = some t) : b = true ∧ q = some t := by
  cases b
  · exact nomatch hh
  · exact ⟨rfl, hh⟩
def own_mq (q : own_R) (me : own_Me) : own_MR := match q with
  | some (a, b, c) => some (a, b, c, me)
  | none => none
def own_ld (ty : FieldType) (me : own_Me) (st : List Value) : Option (Nat × Int32 × Int32 × List Value × List Value) := match st with
  | .int j :: .ref k :: u => (match own_lk k me with
    | some (ty', z, vs) => bif decide (ty' = ty) && own_in j z vs then some (k, j, z, vs, u) else none
    | none => none)
  | _ => none
theorem own_ld_ok {ty : FieldType} {me : own_Me} {t : Nat × Int32 × Int32 × List Value × List Value} (hh : own_ld ty me st = some t) : st = .int t.2.1 :: .ref t.1 :: t.2.2.2.2 ∧ own_lk t.1 me = some (ty, t.2.2.1, t.2.2.2.1) ∧ own_in t.2.1 t.2.2.1 t.2.2.2.1 = true := by
  unfold own_ld at hh
  split at hh
  · split at hh
    · rename_i ty' z vs g
      cases w : (decide (ty' = ty) && own_in _ z vs) with
      | true =>
        rw [w] at hh
        obtain ⟨w1, w2⟩ := (Bool.and_eq_true _ _).mp w
        have e := of_decide_eq_true w1
        subst e
        have hh' := Option.some.inj (show some _ = some t from hh)
        subst hh'
        exact ⟨rfl, g, w2⟩
      | false => rw [w] at hh; exact nomatch hh
    · exact nomatch hh
  · exact nomatch hh
def own_gf (fl : own_Fe) (x : Nat) (st : List Value) : Option (Nat × Value × List Value) := match st with
  | .ref k :: u => (match own_lf k x fl with
    | some v => some (k, v, u)
    | none => none)
  | _ => none
theorem own_gf_ok {fl : own_Fe} {x : Nat} {t : Nat × Value × List Value} (hh : own_gf fl x st = some t) : st = .ref t.1 :: t.2.2 ∧ own_lf t.1 x fl = some t.2.1 := by
  unfold own_gf at hh
  split at hh
  · split at hh
    · have e := Option.some.inj hh
      subst e
      exact ⟨rfl, by assumption⟩
    · exact nomatch hh
  · exact nomatch hh
def own_al (me : own_Me) (st : List Value) : Option (Nat × (FieldType × Int32 × List Value) × List Value) := match st with
  | .ref k :: u => (match own_lk k me with
    | some v => some (k, v, u)
    | none => none)
  | _ => none
theorem own_al_ok {me : own_Me} {t : Nat × (FieldType × Int32 × List Value) × List Value} (hh : own_al me st = some t) : st = .ref t.1 :: t.2.2 ∧ own_lk t.1 me = some t.2.1 := by
  unfold own_al at hh
  split at hh
  · split at hh
    · have e := Option.some.inj hh
      subst e
      exact ⟨rfl, by assumption⟩
    · exact nomatch hh
  · exact nomatch hh
def own_la (me : own_Me) (st : List Value) : Option (Nat × Int32 × (FieldType × Int32 × List Value) × List Value) := match st with
  | .int j :: .ref k :: u => (match own_lk k me with
    | some v => some (k, j, v, u)
    | none => none)
  | _ => none
theorem own_la_ok {me : own_Me} {t : Nat × Int32 × (FieldType × Int32 × List Value) × List Value} (hh : own_la me st = some t) : st = .int t.2.1 :: .ref t.1 :: t.2.2.2 ∧ own_lk t.1 me = some t.2.2.1 := by
  unfold own_la at hh
  split at hh
  · split at hh
    · have e := Option.some.inj hh
      subst e
      exact ⟨rfl, by assumption⟩
    · exact nomatch hh
  · exact nomatch hh
def own_ist (st : List Value) : Option (Int32 × List Value) := match st with
  | .int x :: u => some (x, u)
  | _ => none
theorem own_ist_ok {t : Int32 × List Value} (hh : own_ist st = some t) : st = .int t.1 :: t.2 := by
  unfold own_ist at hh
  split at hh
  · have e := Option.some.inj hh
    subst e
    rfl
  · exact nomatch hh
def own_me1 (fl : own_Fe) (x ln pc : Nat) (ls : Array Slot) (st : List Value) (me : own_Me) : own_MR := match own_gf fl x st with
  | some t => own_mg (Nat.beq ln 3) (some (pc + 3, ls, t.2.1 :: t.2.2, me))
  | none => none
theorem own_me1_ok {fl : own_Fe} {x ln : Nat} {me : own_Me} {t : Nat × Array Slot × List Value × own_Me} (hh : own_me1 fl x ln pc ls st me = some t) : ∃ k v u, ln = 3 ∧ st = .ref k :: u ∧ own_lf k x fl = some v ∧ t = (pc + 3, ls, v :: u, me) := by
  unfold own_me1 at hh
  split at hh
  · rename_i q g
    obtain ⟨b, hh⟩ := own_mg_ok hh
    exact ⟨q.1, q.2.1, q.2.2, Nat.eq_of_beq_eq_true b, (own_gf_ok g).1, (own_gf_ok g).2, (Option.some.inj hh).symm⟩
  · exact nomatch hh
def own_me2 (ln pc : Nat) (ls : Array Slot) (st : List Value) (me : own_Me) : own_MR := match own_la me st with
  | some t => own_mg (Nat.beq ln 1 && (t.2.2.1.1.isReference && own_in t.2.1 t.2.2.1.2.1 t.2.2.1.2.2)) (some (pc + 1, ls, t.2.2.1.2.2.getD t.2.1.toNatClampNeg (own_dv t.2.2.1.1) :: t.2.2.2, me))
  | none => none
theorem own_me2_ok {ln : Nat} {me : own_Me} {t : Nat × Array Slot × List Value × own_Me} (hh : own_me2 ln pc ls st me = some t) : ∃ k j ty z vs u, ln = 1 ∧ st = .int j :: .ref k :: u ∧ own_lk k me = some (ty, z, vs) ∧ ty.isReference = true ∧ own_in j z vs = true ∧ t = (pc + 1, ls, vs.getD j.toNatClampNeg (own_dv ty) :: u, me) := by
  unfold own_me2 at hh
  split at hh
  · rename_i q g
    obtain ⟨b, hh⟩ := own_mg_ok hh
    obtain ⟨b1, b2⟩ := (Bool.and_eq_true _ _).mp b
    obtain ⟨b3, b4⟩ := (Bool.and_eq_true _ _).mp b2
    exact ⟨q.1, q.2.1, q.2.2.1.1, q.2.2.1.2.1, q.2.2.1.2.2, q.2.2.2, Nat.eq_of_beq_eq_true b1, (own_la_ok g).1, (own_la_ok g).2, b3, b4, (Option.some.inj hh).symm⟩
  · exact nomatch hh
def own_me3 (ty : FieldType) (ln pc : Nat) (ls : Array Slot) (st : List Value) (me : own_Me) : own_MR := match own_ld ty me st with
  | some t => (match t.2.2.2.1.getD t.2.1.toNatClampNeg (own_dv ty) with
    | .int x => own_mg (Nat.beq ln 1) (some (pc + 1, ls, .int x :: t.2.2.2.2, me))
    | _ => none)
  | none => none
theorem own_me3_ok {ty : FieldType} {ln : Nat} {me : own_Me} {t : Nat × Array Slot × List Value × own_Me} (hh : own_me3 ty ln pc ls st me = some t) : ∃ k j z vs u x, ln = 1 ∧ st = .int j :: .ref k :: u ∧ own_lk k me = some (ty, z, vs) ∧ own_in j z vs = true ∧ vs.getD j.toNatClampNeg (own_dv ty) = .int x ∧ t = (pc + 1, ls, .int x :: u, me) := by
  unfold own_me3 at hh
  split at hh
  · rename_i q g
    obtain ⟨g1, g2, g3⟩ := own_ld_ok g
    split at hh
    · rename_i x gx
      obtain ⟨b, hh⟩ := own_mg_ok hh
      exact ⟨q.1, q.2.1, q.2.2.1, q.2.2.2.1, q.2.2.2.2, x, Nat.eq_of_beq_eq_true b, g1, g2, g3, gx, (Option.some.inj hh).symm⟩
    · exact nomatch hh
  · exact nomatch hh
def own_me4 (ln pc : Nat) (ls : Array Slot) (st : List Value) (me : own_Me) : own_MR := match own_al me st with
  | some t => own_mg (Nat.beq ln 1) (some (pc + 1, ls, .int t.2.1.2.1 :: t.2.2, me))
  | none => none
theorem own_me4_ok {ln : Nat} {me : own_Me} {t : Nat × Array Slot × List Value × own_Me} (hh : own_me4 ln pc ls st me = some t) : ∃ k ty z vs u, ln = 1 ∧ st = .ref k :: u ∧ own_lk k me = some (ty, z, vs) ∧ t = (pc + 1, ls, .int z :: u, me) := by
  unfold own_me4 at hh
  split at hh
  · rename_i q g
    obtain ⟨b, hh⟩ := own_mg_ok hh
    exact ⟨q.1, q.2.1.1, q.2.1.2.1, q.2.1.2.2, q.2.2, Nat.eq_of_beq_eq_true b, (own_al_ok g).1, (own_al_ok g).2, (Option.some.inj hh).symm⟩
  · exact nomatch hh
def own_me5 (ty : FieldType) (nr : Int32 → Int32) (wl : List Nat) (ln pc : Nat) (ls : Array Slot) (st : List Value) (me : own_Me) : own_MR := match own_ist st with
  | some a => (match own_ld ty me a.2 with
    | some t => own_mg (Nat.beq ln 1 && decide (t.1 ∈ wl)) (some (pc + 1, ls, t.2.2.2.2, own_up t.1 (t.2.2.2.1.set t.2.1.toNatClampNeg (.int (nr a.1))) me))
    | none => none)
  | none => none
theorem own_me5_ok {ty : FieldType} {nr : Int32 → Int32} {wl : List Nat} {ln : Nat} {me : own_Me} {t : Nat × Array Slot × List Value × own_Me} (hh : own_me5 ty nr wl ln pc ls st me = some t) : ∃ k j z vs u x, ln = 1 ∧ st = .int x :: .int j :: .ref k :: u ∧ own_lk k me = some (ty, z, vs) ∧ own_in j z vs = true ∧ k ∈ wl ∧ t = (pc + 1, ls, u, own_up k (vs.set j.toNatClampNeg (.int (nr x))) me) := by
  unfold own_me5 at hh
  split at hh
  · rename_i a ga
    split at hh
    · rename_i q g
      obtain ⟨g1, g2, g3⟩ := own_ld_ok g
      obtain ⟨b, hh⟩ := own_mg_ok hh
      obtain ⟨b1, b2⟩ := (Bool.and_eq_true _ _).mp b
      exact ⟨q.1, q.2.1, q.2.2.1, q.2.2.2.1, q.2.2.2.2, a.1, Nat.eq_of_beq_eq_true b1, (own_ist_ok ga).trans (by rw [g1]), g2, g3, of_decide_eq_true b2, (Option.some.inj hh).symm⟩
    · exact nomatch hh
  · exact nomatch hh
def own_me6 (cl : List (Nat × Int64)) (x ln pc : Nat) (ls : Array Slot) (st : List Value) (me : own_Me) : own_MR := match own_lc x cl with
  | some v => own_mg (Nat.beq ln 3) (some (pc + 3, ls, .long v :: st, me))
  | none => none
theorem own_me6_ok {cl : List (Nat × Int64)} {x ln : Nat} {me : own_Me} {t : Nat × Array Slot × List Value × own_Me} (hh : own_me6 cl x ln pc ls st me = some t) : ∃ v, ln = 3 ∧ own_lc x cl = some v ∧ t = (pc + 3, ls, .long v :: st, me) := by
  unfold own_me6 at hh
  split at hh
  · rename_i v g
    obtain ⟨b, hh⟩ := own_mg_ok hh
    exact ⟨v, Nat.eq_of_beq_eq_true b, g, (Option.some.inj hh).symm⟩
  · exact nomatch hh
def own_me7 (f : Int32 → Int32 → Int32) (ln pc : Nat) (ls : Array Slot) (st : List Value) (me : own_Me) : own_MR := match st with
  | .int y :: .int x :: u => own_mg (Nat.beq ln 1 && !decide (y = 0)) (some (pc + 1, ls, .int (f x y) :: u, me))
  | _ => none
theorem own_me7_ok {f : Int32 → Int32 → Int32} {ln : Nat} {me : own_Me} {t : Nat × Array Slot × List Value × own_Me} (hh : own_me7 f ln pc ls st me = some t) : ∃ x y u, ln = 1 ∧ st = .int y :: .int x :: u ∧ y ≠ 0 ∧ t = (pc + 1, ls, .int (f x y) :: u, me) := by
  unfold own_me7 at hh
  split at hh
  · obtain ⟨b, hh⟩ := own_mg_ok hh
    obtain ⟨b1, b2⟩ := (Bool.and_eq_true _ _).mp b
    exact ⟨_, _, _, Nat.eq_of_beq_eq_true b1, rfl, (fun w => by rw [decide_eq_true w] at b2; cases b2), (Option.some.inj hh).symm⟩
  · exact nomatch hh
def own_ms (fl : own_Fe) (cl : List (Nat × Int64)) (wl : List Nat) (i : Instr) (ln pc : Nat) (ls : Array Slot) (st : List Value) (me : own_Me) : own_MR := match i with
  | .getfield x => own_me1 fl x ln pc ls st me
  | .ldc2_w x => own_me6 cl x ln pc ls st me
  | .aaload => own_me2 ln pc ls st me
  | .iaload => own_me3 .int ln pc ls st me
  | .baload => own_me3 .boolean ln pc ls st me
  | .arraylength => own_me4 ln pc ls st me
  | .idiv => own_me7 (fun x y => x / y) ln pc ls st me
  | .irem => own_me7 (fun x y => x % y) ln pc ls st me
  | .iastore => own_me5 .int (fun x => x) wl ln pc ls st me
  | .bastore => own_me5 .boolean (fun x => nar .boolean x) wl ln pc ls st me
  | i => own_mq (own_ps i ln pc ls st) me
abbrev own_WL (as : List Addr) (wl : List Nat) : List Addr := wl.map fun k => as.getD k 0
theorem own_mstep {kc : List ClassId} {me me' : own_Me} {fl : own_Fe} {cl : List (Nat × Int64)} {wl ks : List Nat} {ln pc' : Nat} {ls' : Array Slot} {st' : List Value} (X : Stand p l e R s m args below meth c T locs cells slots) (hx : p.tables.exec = Jvm.exec) (hZ : Z.Warmed39 s.vm) (hown : s.vm.findClass own = some m.cls) (N : Fr n0 locs) (eT : T.heap = h) (M : own_MO Z h as kc me) (F : own_FO Z h as fl) (L : own_LK Z a0 own fl) (LC : own_LC Z a0 own cl)
    (I : wl = [] ∨ own_Inc as) (hks : me.map (·.1) = ks) (hnd : ks.Nodup) (hkl : ∀ j ∈ ks, j < as.length) (hfl : ∀ j ∈ fl.map (·.1), j < as.length) (hfk : ∀ j ∈ fl.map (·.1), j ∉ ks) (hwo : own_WO n0 as wl)
    (i : Instr) (hd : decode c.code pc = .ok (i, ln)) (hs : own_ms fl cl wl i ln pc ls st me = some (pc', ls', st', me'))
    (K : ∀ T' h' locs', Stand p l e R s m args below meth c T' locs' cells slots → Fr n0 locs' → T'.heap = h' → Keep h h' (own_WL as wl) → (wl = [] → h' = h) → own_MO Z h' as kc me' → own_FO Z h' as fl → me'.map (·.1) = ks → own_Ends p e below s Q cc nn T' (rnF m as pc' ls' st')) :
    own_Ends p e below s Q cc nn T (rnF m as pc ls st) := by
  have K0 : ∀ T', Stand p l e R s m args below meth c T' locs cells slots → T'.heap = h → me' = me → own_Ends p e below s Q cc nn T' (rnF m as pc' ls' st') := fun T' X' e' q => by
    subst q; exact K T' h locs X' N e' (Keep.refl _ _) (fun _ => rfl) M F hks
  have PU : ∀ i, decode c.code pc = .ok (i, ln) → own_mq (own_ps i ln pc ls st) me = some (pc', ls', st', me') → own_Ends p e below s Q cc nn T (rnF m as pc ls st) := fun i hd hs' => by
    unfold own_mq at hs'
    split at hs'
    · rename_i g
      cases hs'
      exact own_go (T' := T) (f' := rnF m as pc' ls' st') (fun _ q => own_step_ok X hx _ hd (own_eqv _ g) q) (K0 T X eT rfl)
    · exact nomatch hs'
  cases i
  case getfield x =>
    obtain ⟨k, v, u, rfl, rfl, g, q⟩ := own_me1_ok (show own_me1 fl x ln pc ls st me = some _ from hs)
    cases q
    obtain ⟨C, n, d, G, w⟩ := own_FO_get F L g
    obtain ⟨T', X', e', stp⟩ := Jvm.RoadKit.getF X hx hZ hown (host := "") (Or.inl w) Via.refl eT G (g := rnF m as pc ls (.ref k :: u)) rfl rfl hd
    exact own_go (T' := T') (f' := rnF m as (pc + 3) ls (v :: u)) (fun _ k => stp _ k) (K0 T' X' e' rfl)
  case ldc2_w x =>
    obtain ⟨v, rfl, g, q⟩ := own_me6_ok (show own_me6 cl x ln pc ls st me = some _ from hs)
    cases q
    exact own_go (T' := T) (f' := rnF m as (pc + 3) ls (.long v :: st)) (fun t q => X.ldc2Long hx hown (mvT hZ (own_LC_get LC g)) (g := rnF m as pc ls st) rfl hd t q) (K0 T X eT rfl)
  case aaload =>
    obtain ⟨k, j, ty, z, vs, u, rfl, rfl, g, b3, b4, q⟩ := own_me2_ok (show own_me2 ln pc ls st me = some _ from hs)
    cases q
    exact own_go (T' := T) (f' := rnF m as (pc + 1) ls (vs.getD j.toNatClampNeg (own_dv ty) :: u)) (fun _ q => own_ldR X hx hZ eT (own_MO_get M g).1 (j := j) (own_in_ok b4).1 own_gD b3 (g := rnF m as pc ls (.int j :: .ref k :: u)) rfl rfl hd q) (K0 T X eT rfl)
  case iaload =>
    obtain ⟨k, j, z, vs, u, x, rfl, rfl, g, b4, gx, q⟩ := own_me3_ok (show own_me3 .int ln pc ls st me = some _ from hs)
    cases q
    exact own_go (T' := T) (f' := rnF m as (pc + 1) ls (.int x :: u)) (fun _ q => own_ldI X hx hZ eT (own_MO_get M g).1 (j := j) (x := x) (own_in_ok b4).1 (by rw [own_gD, gx]; rfl) (g := rnF m as pc ls (.int j :: .ref k :: u)) rfl rfl hd q) (K0 T X eT rfl)
  case baload =>
    obtain ⟨k, j, z, vs, u, x, rfl, rfl, g, b4, gx, q⟩ := own_me3_ok (show own_me3 .boolean ln pc ls st me = some _ from hs)
    cases q
    exact own_go (T' := T) (f' := rnF m as (pc + 1) ls (.int x :: u)) (fun _ q => own_ldZ X hx hZ eT (own_MO_get M g).1 (j := j) (x := x) (own_in_ok b4).1 (by rw [own_gD, gx]; rfl) (g := rnF m as pc ls (.int j :: .ref k :: u)) rfl rfl hd q) (K0 T X eT rfl)
  case arraylength =>
    obtain ⟨k, ty, z, vs, u, rfl, rfl, g, q⟩ := own_me4_ok (show own_me4 ln pc ls st me = some _ from hs)
    cases q
    exact own_go (T' := T) (f' := rnF m as (pc + 1) ls (.int z :: u)) (fun _ q => own_alen X hx hZ eT (own_MO_get M g).1 (g := rnF m as pc ls (.ref k :: u)) rfl rfl hd q) (K0 T X eT rfl)
  case idiv =>
    obtain ⟨x, y, u, rfl, rfl, hy, q⟩ := own_me7_ok (show own_me7 (fun x y => x / y) ln pc ls st me = some _ from hs)
    cases q
    exact own_go (T' := T) (f' := rnF m as (pc + 1) ls (.int (x / y) :: u)) (fun _ q => XS.idiv X.here hx (g := rnF m as pc ls (.int y :: .int x :: u)) rfl hd rfl hy q) (K0 T X eT rfl)
  case irem =>
    obtain ⟨x, y, u, rfl, rfl, hy, q⟩ := own_me7_ok (show own_me7 (fun x y => x % y) ln pc ls st me = some _ from hs)
    cases q
    exact own_go (T' := T) (f' := rnF m as (pc + 1) ls (.int (x % y) :: u)) (fun _ q => iremM X hx (g := rnF m as pc ls (.int y :: .int x :: u)) rfl hd rfl hy q) (K0 T X eT rfl)
  case iastore =>
    obtain ⟨k, j, z, vs, u, x, rfl, rfl, g, g3, hw, q⟩ := own_me5_ok (show own_me5 .int (fun x => x) wl ln pc ls st me = some _ from hs)
    have q' := q.symm
    cases q'
    have I : own_Inc as := I.resolve_left (fun q => by rw [q] at hw; exact nomatch hw)
    obtain ⟨V, hk⟩ := own_MO_get M g
    obtain ⟨T', h', X', e', W, V', stp⟩ := own_stI X hx hZ eT V (j := j) (x := x) (own_in_ok g3).1 j.toNatClampNeg rfl (by rw [List.length_map]; exact (own_in_ok g3).2) (g := rnF m as pc ls (.int x :: .int j :: .ref k :: st')) rfl rfl hd
    have hkk : k ∈ ks := hks ▸ hk
    have V2 : Arv Z h' (as.getD k 0) (kc.getD k 0) .int z ((vs.set j.toNatClampNeg (.int x)).map (rnV as)) (own_dv .int) := by rw [List.map_set]; exact V'
    have hne : ∀ q ∈ me.map (·.1), q ≠ k → as.getD q 0 ≠ as.getD k 0 := fun q hq n => own_inc_ne I (hkl q (hks ▸ hq)) (hkl k hkk) n
    exact own_go (T' := T') (f' := rnF m as (pc + 1) ls st') (fun _ q => stp _ q) (K T' h' _ X' (Fr.snoc X' N (own_WO_get hwo hw)) e' ((Keep.refl h (own_WL as wl)).wr W (Or.inl (List.mem_map.mpr ⟨k, hw, rfl⟩))) (fun q => by rw [q] at hw; exact nomatch hw) (own_MO_up M (hks ▸ hnd) g hne W V2) (own_FO_oth F W fun q hq => own_inc_ne I (hfl q hq) (hkl k hkk) (fun w => hfk q hq (w ▸ hkk))) (own_up_keys.trans hks))
  case bastore =>
    obtain ⟨k, j, z, vs, u, x, rfl, rfl, g, g3, hw, q⟩ := own_me5_ok (show own_me5 .boolean (fun x => nar .boolean x) wl ln pc ls st me = some _ from hs)
    have q' := q.symm
    cases q'
    have I : own_Inc as := I.resolve_left (fun q => by rw [q] at hw; exact nomatch hw)
    obtain ⟨V, hk⟩ := own_MO_get M g
    obtain ⟨T', h', X', e', W, V', stp⟩ := own_stZ X hx hZ eT V (j := j) (x := x) (own_in_ok g3).1 j.toNatClampNeg rfl (by rw [List.length_map]; exact (own_in_ok g3).2) (g := rnF m as pc ls (.int x :: .int j :: .ref k :: st')) rfl rfl hd
    have hkk : k ∈ ks := hks ▸ hk
    have V2 : Arv Z h' (as.getD k 0) (kc.getD k 0) .boolean z ((vs.set j.toNatClampNeg (.int (nar .boolean x))).map (rnV as)) (own_dv .boolean) := by rw [List.map_set]; exact V'
    have hne : ∀ q ∈ me.map (·.1), q ≠ k → as.getD q 0 ≠ as.getD k 0 := fun q hq n => own_inc_ne I (hkl q (hks ▸ hq)) (hkl k hkk) n
    exact own_go (T' := T') (f' := rnF m as (pc + 1) ls st') (fun _ q => stp _ q) (K T' h' _ X' (Fr.snoc X' N (own_WO_get hwo hw)) e' ((Keep.refl h (own_WL as wl)).wr W (Or.inl (List.mem_map.mpr ⟨k, hw, rfl⟩))) (fun q => by rw [q] at hw; exact nomatch hw) (own_MO_up M (hks ▸ hnd) g hne W V2) (own_FO_oth F W fun q hq => own_inc_ne I (hfl q hq) (hkl k hkk) (fun w => hfk q hq (w ▸ hkk))) (own_up_keys.trans hks))
  all_goals exact PU _ hd hs
def own_mx (M : Nat) (f : Nat → Option (Instr × Nat)) (fl : own_Fe) (cl : List (Nat × Int64)) (wl : List Nat) : Nat → Nat → Array Slot → List Value → own_Me → own_MR
  | 0, pc, ls, st, me => some (pc, ls, st, me)
  | n + 1, pc, ls, st, me => match own_fetch M f pc with
    | some (i, ln) => (match own_ms fl cl wl i ln pc ls st me with
      | some (pc', ls', st', me') => own_mx M f fl cl wl n pc' ls' st' me'
      | none => none)
    | none => none
theorem oC {B : Nat} {f : Nat → Option (Instr × Nat)} {fl : own_Fe} {cl : List (Nat × Int64)} {wl : List Nat} {me me1 : own_Me} {r : own_MR} (n1 pc1 : Nat) (ls1 : List Slot) (st1 : List Value) {n2 : Nat} (h1 : own_mx B f fl cl wl n1 pc ls st me = some (pc1, ls1.toArray, st1, me1)) (h2 : own_mx B f fl cl wl n2 pc1 ls1.toArray st1 me1 = r) : own_mx B f fl cl wl (n1 + n2) pc ls st me = r := by
  induction n1 generalizing pc ls st me with
  | zero => cases h1; rw [Nat.zero_add]; exact h2
  | succ n ih =>
    rw [Nat.succ_add]
    unfold own_mx at h1 ⊢
    split at h1
    · split at h1
      · exact ih h1
      · exact nomatch h1
    · exact nomatch h1
theorem own_mrun {B : Nat} {f : Nat → Option (Instr × Nat)} {kc : List ClassId} {fl : own_Fe} {cl : List (Nat × Int64)} {wl ks : List Nat} {pc' : Nat} {ls' : Array Slot} {st' : List Value} {me' : own_Me} (tt : own_T p c B f) (hZ : Z.Warmed39 s.vm) (hown : s.vm.findClass own = some m.cls) (L : own_LK Z a0 own fl) (LC : own_LC Z a0 own cl) (I : wl = [] ∨ own_Inc as) (hnd : ks.Nodup) (hkl : ∀ j ∈ ks, j < as.length) (hfl : ∀ j ∈ fl.map (·.1), j < as.length) (hfk : ∀ j ∈ fl.map (·.1), j ∉ ks) (hwo : own_WO n0 as wl) (n : Nat) :
    ∀ {T : State} {h : Heap} {locs : List Loc} {pc : Nat} {ls : Array Slot} {st : List Value} {me : own_Me}, Stand p l e R s m args below meth c T locs cells slots → Fr n0 locs → T.heap = h → own_MO Z h as kc me → own_FO Z h as fl → me.map (·.1) = ks → own_mx B f fl cl wl n pc ls st me = some (pc', ls', st', me') →
    (∀ T' h' locs', Stand p l e R s m args below meth c T' locs' cells slots → Fr n0 locs' → T'.heap = h' → Keep h h' (own_WL as wl) → (wl = [] → h' = h) → own_MO Z h' as kc me' → own_Ends p e below s Q cc nn T' (rnF m as pc' ls' st')) → own_Ends p e below s Q cc nn T (rnF m as pc ls st) := by
  induction n with
  | zero => intro T h locs pc ls st me X N eT M F hks hm K; cases hm; exact K T h locs X N eT (Keep.refl _ _) (fun _ => rfl) M
  | succ n ih =>
    intro T h locs pc ls st me X N eT M F hks hm K
    unfold own_mx at hm
    split at hm
    · split at hm
      · rename_i i ln g _ pc1 ls1 st1 me1 g1
        exact own_mstep X tt.1 hZ hown N eT M F L LC I hks hnd hkl hfl hfk hwo i (tt.2 _ _ g) g1 fun T1 h1 locs1 X1 N1 e1 K1 Q1 M1 F1 hk1 => ih X1 N1 e1 M1 F1 hk1 hm fun T2 h2 locs2 X2 N2 e2 K2 Q2 M2 => K T2 h2 locs2 X2 N2 e2 (K1.trans K2 fun x hx => Or.inl hx) (fun q => (Q2 q).trans (Q1 q)) M2
      · exact nomatch hm
    · exact nomatch hm
def own_ups (us : List (Nat × List Value)) (me : own_Me) : own_Me := us.foldl (fun m q => own_up q.1 q.2 m) me
def own_mxq (B : Nat) (f : Nat → Option (Instr × Nat)) (fl : own_Fe) (cl : List (Nat × Int64)) (wl : List Nat) (n pc : Nat) (ls : List Slot) (st : List Value) (me : own_Me) (pc' : Nat) (ls' : List Slot) (st' : List Value) (me' : own_Me) : Bool := match own_mx B f fl cl wl n pc ls.toArray st me with
  | some (a, b, c, d) => Nat.beq a pc' && (decide (b.toList = ls') && (decide (c = st') && decide (d = me')))
  | none => false
theorem own_mxq_ok {B : Nat} {f : Nat → Option (Instr × Nat)} {fl : own_Fe} {cl : List (Nat × Int64)} {wl : List Nat} {n pc : Nat} {ls : List Slot} {st : List Value} {me : own_Me} {pc' : Nat} {ls' : List Slot} {st' : List Value} {me' : own_Me} (hh : own_mxq B f fl cl wl n pc ls st me pc' ls' st' me' = true) : own_mx B f fl cl wl n pc ls.toArray st me = some (pc', ls'.toArray, st', me') := by
  unfold own_mxq at hh
  split at hh
  · rename_i a b c d g
    obtain ⟨h1, h2⟩ := (Bool.and_eq_true _ _).mp hh
    obtain ⟨h3, h4⟩ := (Bool.and_eq_true _ _).mp h2
    obtain ⟨h5, h6⟩ := (Bool.and_eq_true _ _).mp h4
    have e1 := Nat.eq_of_beq_eq_true h1
    have e2 := of_decide_eq_true h3
    have e3 := of_decide_eq_true h5
    have e4 := of_decide_eq_true h6
    subst e1 e2 e3 e4
    rw [g]
  · exact nomatch hh
def own_ckk (ks : List Nat) (fl : own_Fe) (na : Nat) : Bool := decide ks.Nodup && (ks.all (fun j => Nat.blt j na) && (fl.map (·.1)).all (fun j => Nat.blt j na && !decide (j ∈ ks)))
theorem oX2 {B : Nat} {f : Nat → Option (Instr × Nat)} {T : State} {h : Heap} {locs : List Loc} {pc : Nat} (a0 : Array Value) (as : List Addr) (kc : List ClassId) (fl : own_Fe) (cl : List (Nat × Int64)) (wl ks : List Nat) (na : Nat) (ls : List Slot) (st : List Value) (me : own_Me) (pc' : Nat) (ls' : List Slot) (st' : List Value) (ups : List (Nat × List Value))
    (tt : own_T p c B f) (hZ : Z.Warmed39 s.vm) (hown : s.vm.findClass own = some m.cls) (X : Stand p l e R s m args below meth c T locs cells slots) (N : Fr n0 locs) (eT : T.heap = h) (L : own_LK Z a0 own fl) (LC : own_LC Z a0 own cl) (F : own_FO Z h as fl) (M : own_MO Z h as kc me) (I : wl = [] ∨ own_Inc as) (hwo : own_WO n0 as wl) (hna : as.length = na) (hks : me.map (·.1) = ks) (hck : own_ckk ks fl na = true) (n : Nat)
    (hm : own_mxq B f fl cl wl n pc ls st me pc' ls' st' (own_ups ups me) = true)
    (K : ∀ T' h' locs', Stand p l e R s m args below meth c T' locs' cells slots → Fr n0 locs' → T'.heap = h' → Keep h h' (own_WL as wl) → (wl = [] → h' = h) → own_MO Z h' as kc (own_ups ups me) → own_Ends p e below s Q cc nn T' (mkF m pc' (ls'.map (rnS as)).toArray (st'.map (rnV as)))) :
    own_Ends p e below s Q cc nn T (mkF m pc (ls.map (rnS as)).toArray (st.map (rnV as))) := by
  unfold own_ckk at hck
  obtain ⟨c1, c2⟩ := (Bool.and_eq_true _ _).mp hck
  obtain ⟨c3, c4⟩ := (Bool.and_eq_true _ _).mp c2
  have d3 : ∀ j ∈ ks, j < as.length := fun j hj => by rw [hna]; exact Nat.le_of_ble_eq_true (List.all_eq_true.mp c3 j hj)
  have d4 : ∀ j ∈ fl.map (·.1), j < as.length ∧ j ∉ ks := fun j hj => by
    obtain ⟨q1, q2⟩ := (Bool.and_eq_true _ _).mp (List.all_eq_true.mp c4 j hj)
    exact ⟨by rw [hna]; exact Nat.le_of_ble_eq_true q1, fun w => by rw [decide_eq_true w] at q2; cases q2⟩
  have r := own_mrun (Q := Q) (cc := cc) (nn := nn) tt hZ hown L LC I (of_decide_eq_true c1) d3 (fun j hj => (d4 j hj).1) (fun j hj => (d4 j hj).2) hwo n X N eT M F hks (own_mxq_ok hm)
  simp only [rnF, List.map_toArray] at r
  exact r K
theorem oA {a b : Prop} (x : a) (y : b) : a ∧ b := ⟨x, y⟩
theorem oX3 {B : Nat} {f : Nat → Option (Instr × Nat)} {T : State} {h : Heap} {locs : List Loc} {pc : Nat} (a0 : Array Value) (as : List Addr) (kc : List ClassId) (fl : own_Fe) (cl : List (Nat × Int64)) (wl ks : List Nat) (na : Nat) (ls : List Slot) (st : List Value) (me : own_Me) (pc' : Nat) (ls' : List Slot) (st' : List Value) (ups : List (Nat × List Value))
    (tt : own_T p c B f) (hZ : Z.Warmed39 s.vm) (hown : s.vm.findClass own = some m.cls) (X : Stand p l e R s m args below meth c T locs cells slots) (N : Fr n0 locs) (eT : T.heap = h) (L : own_LK Z a0 own fl) (LC : own_LC Z a0 own cl) (F : own_FO Z h as fl) (M : own_MO Z h as kc me) (I : wl = [] ∨ own_Inc as) (hwo : own_WO n0 as wl) (hna : as.length = na) (hks : me.map (·.1) = ks) (hck : own_ckk ks fl na = true) (n : Nat)
    (hm : own_mx B f fl cl wl n pc ls.toArray st me = some (pc', ls'.toArray, st', own_ups ups me))
    (K : ∀ T' h' locs', Stand p l e R s m args below meth c T' locs' cells slots → Fr n0 locs' → T'.heap = h' → Keep h h' (own_WL as wl) → (wl = [] → h' = h) → own_MO Z h' as kc (own_ups ups me) → own_Ends p e below s Q cc nn T' (mkF m pc' (ls'.map (rnS as)).toArray (st'.map (rnV as)))) :
    own_Ends p e below s Q cc nn T (mkF m pc (ls.map (rnS as)).toArray (st.map (rnV as))) := by
  unfold own_ckk at hck
  obtain ⟨c1, c2⟩ := (Bool.and_eq_true _ _).mp hck
  obtain ⟨c3, c4⟩ := (Bool.and_eq_true _ _).mp c2
  have d3 : ∀ j ∈ ks, j < as.length := fun j hj => by rw [hna]; exact Nat.le_of_ble_eq_true (List.all_eq_true.mp c3 j hj)
  have d4 : ∀ j ∈ fl.map (·.1), j < as.length ∧ j ∉ ks := fun j hj => by
    obtain ⟨q1, q2⟩ := (Bool.and_eq_true _ _).mp (List.all_eq_true.mp c4 j hj)
    exact ⟨by rw [hna]; exact Nat.le_of_ble_eq_true q1, fun w => by rw [decide_eq_true w] at q2; cases q2⟩
  have r := own_mrun (Q := Q) (cc := cc) (nn := nn) tt hZ hown L LC I (of_decide_eq_true c1) d3 (fun j hj => (d4 j hj).1) (fun j hj => (d4 j hj).2) hwo n X N eT M F hks hm
  simp only [rnF, List.map_toArray] at r
  exact r K
end Mem
theorem own_nat32 (x : Int32) (h : 0 ≤ x.toInt) : x.toInt = (x.toBitVec.toNat : Int) := by
  have e : x.toInt = x.toBitVec.toInt := rfl
  rw [BitVec.toInt_eq_toNat_cond] at e
  have := x.toBitVec.isLt
  split at e <;> omega
theorem own_maskI (x m : Int32) (h : 0 ≤ m.toInt) : 0 ≤ (x &&& m).toInt ∧ (x &&& m).toInt ≤ m.toInt := by
  have hm := own_nat32 m h
  have h1 : (x &&& m).toBitVec.toNat ≤ m.toBitVec.toNat := by rw [Int32.toBitVec_and, BitVec.toNat_and]; exact Nat.and_le_right
  have e : (x &&& m).toInt = (x &&& m).toBitVec.toInt := rfl
  have hl := Int32.toInt_lt m
  rw [e, BitVec.toInt_eq_toNat_cond]
  split <;> omega
theorem own_m1 (x : Int32) : ((x &&& (2147483647 : Int32)) % (1 : Int32)) = 0 := by
  have h := own_maskI x 2147483647 (by decide)
  have e : ((x &&& (2147483647 : Int32)) % (1 : Int32)).toInt = (x &&& (2147483647 : Int32)).toInt.tmod 1 := Int32.toInt_mod _ _
  have q : ((x &&& (2147483647 : Int32)) % (1 : Int32)).toInt = 0 := by
    rw [e, Int.tmod_eq_emod_of_nonneg h.1]; omega
  rcases q with q
  · exact (Int32.toInt_inj.mp q)
theorem own_m2 (x : Int32) : ((x &&& (2147483647 : Int32)) % (2 : Int32)) = 0 ∨ ((x &&& (2147483647 : Int32)) % (2 : Int32)) = 1 := by
  have h := own_maskI x 2147483647 (by decide)
  have e : ((x &&& (2147483647 : Int32)) % (2 : Int32)).toInt = (x &&& (2147483647 : Int32)).toInt.tmod 2 := Int32.toInt_mod _ _
  have q : ((x &&& (2147483647 : Int32)) % (2 : Int32)).toInt = 0 ∨ ((x &&& (2147483647 : Int32)) % (2 : Int32)).toInt = 1 := by
    rw [e, Int.tmod_eq_emod_of_nonneg h.1]; omega
  rcases q with q | q
  · exact Or.inl (Int32.toInt_inj.mp q)
  · exact Or.inr ((Int32.toInt_inj.mp q))
theorem own_m3 (x : Int32) : ((x &&& (2147483647 : Int32)) % (3 : Int32)) = 0 ∨ ((x &&& (2147483647 : Int32)) % (3 : Int32)) = 1 ∨ ((x &&& (2147483647 : Int32)) % (3 : Int32)) = 2 := by
  have h := own_maskI x 2147483647 (by decide)
  have e : ((x &&& (2147483647 : Int32)) % (3 : Int32)).toInt = (x &&& (2147483647 : Int32)).toInt.tmod 3 := Int32.toInt_mod _ _
  have q : ((x &&& (2147483647 : Int32)) % (3 : Int32)).toInt = 0 ∨ ((x &&& (2147483647 : Int32)) % (3 : Int32)).toInt = 1 ∨ ((x &&& (2147483647 : Int32)) % (3 : Int32)).toInt = 2 := by
    rw [e, Int.tmod_eq_emod_of_nonneg h.1]; omega
  rcases q with q | q | q
  · exact Or.inl (Int32.toInt_inj.mp q)
  · exact Or.inr (Or.inl (Int32.toInt_inj.mp q))
  · exact Or.inr (Or.inr ((Int32.toInt_inj.mp q)))
theorem own_m4 (x : Int32) : ((x &&& (2147483647 : Int32)) % (4 : Int32)) = 0 ∨ ((x &&& (2147483647 : Int32)) % (4 : Int32)) = 1 ∨ ((x &&& (2147483647 : Int32)) % (4 : Int32)) = 2 ∨ ((x &&& (2147483647 : Int32)) % (4 : Int32)) = 3 := by
  have h := own_maskI x 2147483647 (by decide)
  have e : ((x &&& (2147483647 : Int32)) % (4 : Int32)).toInt = (x &&& (2147483647 : Int32)).toInt.tmod 4 := Int32.toInt_mod _ _
  have q : ((x &&& (2147483647 : Int32)) % (4 : Int32)).toInt = 0 ∨ ((x &&& (2147483647 : Int32)) % (4 : Int32)).toInt = 1 ∨ ((x &&& (2147483647 : Int32)) % (4 : Int32)).toInt = 2 ∨ ((x &&& (2147483647 : Int32)) % (4 : Int32)).toInt = 3 := by
    rw [e, Int.tmod_eq_emod_of_nonneg h.1]; omega
  rcases q with q | q | q | q
  · exact Or.inl (Int32.toInt_inj.mp q)
  · exact Or.inr (Or.inl (Int32.toInt_inj.mp q))
  · exact Or.inr (Or.inr (Or.inl (Int32.toInt_inj.mp q)))
  · exact Or.inr (Or.inr (Or.inr ((Int32.toInt_inj.mp q))))
theorem own_m5 (x : Int32) : ((x &&& (2147483647 : Int32)) % (5 : Int32)) = 0 ∨ ((x &&& (2147483647 : Int32)) % (5 : Int32)) = 1 ∨ ((x &&& (2147483647 : Int32)) % (5 : Int32)) = 2 ∨ ((x &&& (2147483647 : Int32)) % (5 : Int32)) = 3 ∨ ((x &&& (2147483647 : Int32)) % (5 : Int32)) = 4 := by
  have h := own_maskI x 2147483647 (by decide)
  have e : ((x &&& (2147483647 : Int32)) % (5 : Int32)).toInt = (x &&& (2147483647 : Int32)).toInt.tmod 5 := Int32.toInt_mod _ _
  have q : ((x &&& (2147483647 : Int32)) % (5 : Int32)).toInt = 0 ∨ ((x &&& (2147483647 : Int32)) % (5 : Int32)).toInt = 1 ∨ ((x &&& (2147483647 : Int32)) % (5 : Int32)).toInt = 2 ∨ ((x &&& (2147483647 : Int32)) % (5 : Int32)).toInt = 3 ∨ ((x &&& (2147483647 : Int32)) % (5 : Int32)).toInt = 4 := by
    rw [e, Int.tmod_eq_emod_of_nonneg h.1]; omega
  rcases q with q | q | q | q | q
  · exact Or.inl (Int32.toInt_inj.mp q)
  · exact Or.inr (Or.inl (Int32.toInt_inj.mp q))
  · exact Or.inr (Or.inr (Or.inl (Int32.toInt_inj.mp q)))
  · exact Or.inr (Or.inr (Or.inr (Or.inl (Int32.toInt_inj.mp q))))
  · exact Or.inr (Or.inr (Or.inr (Or.inr ((Int32.toInt_inj.mp q)))))
def kh (q : Int64) (sh : Int32) : Int64 := (q.toUInt64 >>> (sh &&& 0x3f).toInt64.toUInt64).toInt64
def kg (q : Int64) (sh w : Int32) : Int64 := kh q sh &&& (((-1 : Int64).toUInt64 >>> (((64 : Int32) - w) &&& 0x3f).toInt64.toUInt64).toInt64)
def ks (k : Int64) (w : Int32) : Int64 := k <<< (w &&& 0x3f).toInt64
def kf (k q : Int64) (sh w : Int32) : Int64 := ks k w ||| kg q sh w
def own_t5:Nat→Option (Instr × Nat):=tP 0 (.aload_n 0)
theorem own_ok5:∀ pc q,own_fetch 5 own_t5 pc = some q→decode jdk_22_method_1_code pc = .ok q:=own_tab (by decide +kernel)
theorem d5_1:decode jdk_22_method_1_code 1 = .ok (.invokespecial 1,3):=by decide +kernel
theorem d5_4:decode jdk_22_method_1_code 4 = .ok (.return_,1):=by decide +kernel
theorem pn_4:plainName "java/util/AbstractCollection" = true:=by first | (simp [plainName,overriddenIn]; done) | decide +kernel
def Q5a4 (Z:State)  (h0:Heap)(n0:Nat)(v:Option Value)(h:Heap)(L:List Loc):Prop:=v = none∧Fr n0 L∧h = h0
set_option maxRecDepth 65536 in
set_option maxHeartbeats 40000000 in
theorem rm5a4 (l:Launch)(Z:State)(a0:Array Value)(hw:HW a0 Z)(ws:List Jvm.Cond)(b6:Addr)(h0:Heap)(n0:Nat)(Z0:n0≤h0.size) :
    own_Met l mn0 jdk_22_method_1_code 1 none ws (oRm 1 0 0 12) #[vR b6] Z h0 (Q5a4 Z  h0 n0):=by
  refine own_met (own:="java/util/AbstractCollection") rfl (plainFor_of_name pn_4) ?_
  intro p e s m below meth c s₁ hx hby hml hZ hown hnm X0 e0 Br Bs
  have N0:=Fr.nil n0
  have tt:=own_tt hx hby own_ok5
  refine oV 0 #[oR b6] [] ?_
  refine oG X0 tt 1 1 #[oR b6] [vR b6] rfl ?_
  obtain ⟨T9,X9,e9,st9⟩:=initO X0 hx hZ hown (ow29 hw) (ow8 hw) (ow9 hw) e0 (g:=(mkF m 1 #[oR b6] [vR b6])) rfl hml.symm rfl (hb hby d5_1) (by decide) (W:=0) (oZ rfl) (by decide)
  refine oJ 4 #[oR b6] [] st9 ?_
  refine own_ret X9 (v:=none) (fun _=>rfl) Bs (fun fs hr=>X9.returnOut hx Br (hb hby d5_4) hr) ?_ (by decide) (by decide)
  unfold Q5a4
  exact ⟨rfl,N0,e9⟩
theorem pd2:parseMethodDescriptor "()V" = some ⟨[],none⟩:=by decide +kernel
def own_t4:Nat→Option (Instr × Nat):=tB 0 (tP 0 (.aload_n 0)) (tB 4 (tP 4 (.aload_n 0)) (tP 5 (.iconst 0)))
theorem own_ok4:∀ pc q,own_fetch 10 own_t4 pc = some q→decode jdk_39_method_1_code pc = .ok q:=own_tab (by decide +kernel)
theorem d4_1:decode jdk_39_method_1_code 1 = .ok (.invokespecial 1,3):=by decide +kernel
theorem d4_6:decode jdk_39_method_1_code 6 = .ok (.putfield 7,3):=by decide +kernel
theorem d4_9:decode jdk_39_method_1_code 9 = .ok (.return_,1):=by decide +kernel
theorem pn_5:plainName "java/util/AbstractList" = true:=by first | (simp [plainName,overriddenIn]; done) | decide +kernel
def Q4a3 (Z:State)(b6:Addr)(h0:Heap)(n0:Nat)(v:Option Value)(h:Heap)(L:List Loc):Prop:=v = none∧Fr n0 L∧Keep h0 h [b6]∧oF0 Z h b6 (vI 0)∧oF1 Z h b6 .null∧oF2 Z h b6 (vI 0)
set_option maxRecDepth 65536 in
set_option maxHeartbeats 40000000 in
theorem rm4a3 (l:Launch)(Z:State)(a0:Array Value)(hw:HW a0 Z)(ws:List Jvm.Cond)(b6:Addr)(h0:Heap)(n0:Nat)(Z0:n0≤h0.size)(PE9:Exa Z h0 b6 "java/util/ArrayList")(PF10:oF0 Z h0 b6 (vI 0))(PF11:oF1 Z h0 b6 .null)(PF12:oF2 Z h0 b6 (vI 0))(n_b6:n0≤b6) :
    own_Met l mn1 jdk_39_method_1_code 1 none ws (oRm 2 0 0 24) #[vR b6] Z h0 (Q4a3 Z b6 h0 n0):=by
  refine own_met (own:="java/util/AbstractList") rfl (plainFor_of_name pn_5) ?_
  intro p e s m below meth c s₁ hx hby hml hZ hown hnm X0 e0 Br Bs
  have N0:=Fr.nil n0
  have tt:=own_tt hx hby own_ok4
  refine oV 0 #[oR b6] [] ?_
  refine oG X0 tt 1 1 #[oR b6] [vR b6] rfl ?_
  refine own_cN X0 hx hZ hown e0 rfl (ow23 hw) (ow24 hw) (ow27 hw) (ow28 hw) (y:=mn0) (b:=b6) (argsL:=[]) (rest:=[]) (W:=0) hml.symm (hb hby d4_1) (lenOf pd2 rfl) rfl (by decide) (rm5a4 l Z a0 hw [] b6 h0 n0 Z0 ) fun _ T10 _ X10 hQ10=>?_
  obtain ⟨rfl,N10q,hh10⟩:=hQ10
  have N10:=Fr.app N0 N10q
  obtain ⟨_,X10,N10⟩:=own_hide X10 N10
  refine oV 4 #[oR b6] [] ?_
  refine oG X10 tt 2 6 #[oR b6] [vI 0,vR b6] rfl ?_
  obtain ⟨T11,h11,X11,e11,W11,st11⟩:=putF X10 hx hZ hown (host:="") (Or.inl (ow30 hw)) Via.refl hh10 PF10 PE9 (Or.inl (ow31 hw)) (ow12 hw) (ty:=.int) (by decide) rfl rfl (g:=(mkF m 6 #[oR b6] [vI 0,vR b6])) rfl rfl (hb hby d4_6)
  have Fw11:=Fld.same W11 PF10
  have K11:Keep h0 h11 [b6]:=(Keep.refl h0 [b6]).wr W11 oI0
  have N11:=Fr.snoc X11 N10 n_b6
  refine oJ 9 #[oR b6] [] st11 ?_
  refine own_ret X11 (v:=none) (fun _=>rfl) Bs (fun fs hr=>X11.returnOut hx Br (hb hby d4_9) hr) ?_ (by decide) (by decide)
  unfold Q4a3
  rw [e11]
  exact ⟨rfl,N11,K11,Fw11,(PF11.other W11 (Or.inr (sn_34_31 hw))),(PF12.other W11 (Or.inr (sn_59_31 hw)))⟩
def own_t3:Nat→Option (Instr × Nat):=tB 0 (tP 0 (.aload_n 0)) (tP 4 (.aload_n 0))
theorem own_ok3:∀ pc q,own_fetch 12 own_t3 pc = some q→decode jdk_38_method_2_code pc = .ok q:=own_tab (by decide +kernel)
theorem d3_1:decode jdk_38_method_2_code 1 = .ok (.invokespecial 1,3):=by decide +kernel
theorem d3_5:decode jdk_38_method_2_code 5 = .ok (.getstatic 39,3):=by decide +kernel
theorem d3_8:decode jdk_38_method_2_code 8 = .ok (.putfield 9,3):=by decide +kernel
theorem d3_11:decode jdk_38_method_2_code 11 = .ok (.return_,1):=by decide +kernel
theorem pn_6:plainName "java/util/ArrayList" = true:=by first | (simp [plainName,overriddenIn]; done) | decide +kernel
def Q3a2 (Z:State)(b6 wd:Addr)(h0:Heap)(n0:Nat)(v:Option Value)(h:Heap)(L:List Loc):Prop:=v = none∧Fr n0 L∧Keep h0 h [b6]∧oF0 Z h b6 (vI 0)∧oF1 Z h b6 (vR wd)∧oF2 Z h b6 (vI 0)
set_option maxRecDepth 65536 in
set_option maxHeartbeats 40000000 in
theorem rm3a2 (l:Launch)(Z:State)(a0:Array Value)(hw:HW a0 Z)(ws:List Jvm.Cond)(b6 wd:Addr)(h0:Heap)(n0:Nat)(Z0:n0≤h0.size)(PS0:Sta Z h0 "java/util/ArrayList" "DEFAULTCAPACITY_EMPTY_ELEMENTDATA" "[Ljava/lang/Object;" (vR wd))(PE9:Exa Z h0 b6 "java/util/ArrayList")(PF10:oF0 Z h0 b6 (vI 0))(PF11:oF1 Z h0 b6 .null)(PF12:oF2 Z h0 b6 (vI 0))(n_b6:n0≤b6) :
    own_Met l mn2 jdk_38_method_2_code 1 none ws (oRm 3 0 0 36) #[vR b6] Z h0 (Q3a2 Z b6 wd h0 n0):=by
  refine own_met (own:="java/util/ArrayList") rfl (plainFor_of_name pn_6) ?_
  intro p e s m below meth c s₁ hx hby hml hZ hown hnm X0 e0 Br Bs
  have N0:=Fr.nil n0
  have tt:=own_tt hx hby own_ok3
  refine oV 0 #[oR b6] [] ?_
  refine oG X0 tt 1 1 #[oR b6] [vR b6] rfl ?_
  refine own_cN X0 hx hZ hown e0 rfl (ow17 hw) (ow18 hw) (ow21 hw) (ow22 hw) (y:=mn1) (b:=b6) (argsL:=[]) (rest:=[]) (W:=0) hml.symm (hb hby d3_1) (lenOf pd2 rfl) rfl (by decide) (rm4a3 l Z a0 hw [] b6 h0 n0 Z0 PE9 PF10 PF11 PF12 n_b6) fun _ T12 _ X12 hQ12=>?_
  obtain ⟨rfl,N12q,K12,g12_0,g12_1,g12_2⟩:=hQ12
  have N12:=Fr.app N0 N12q
  have eK12:T12.heap = T12.heap:=rfl
  have KK12:Keep h0 T12.heap [b6]:=Keep.trans (Keep.refl h0 [b6]) K12 (allS oI0 all0)
  obtain ⟨_,X12,N12⟩:=own_hide X12 N12
  refine oV 4 #[oR b6] [] ?_
  refine oG X12 tt 1 5 #[oR b6] [vR b6] rfl ?_
  obtain ⟨T13,X13,e13,st13⟩:=getS2 X12 hx hZ hown (host:="") (Or.inl (ow32 hw)) Via.refl eK12 (own_sta_keep PS0 K12 (own_wsE PE9 own_ws0)) (g:=(mkF m 5 #[oR b6] [vR b6])) rfl (hb hby d3_5)
  refine oJ 8 #[oR b6] [vR wd,vR b6] st13 ?_
  obtain ⟨T14,h14,X14,e14,W14,st14⟩:=putF X13 hx hZ hown (host:="") (Or.inl (ow33 hw)) Via.refl e13 g12_1 (PE9.keep K12) (Or.inl (ow34 hw)) (ow12 hw) (ty:=(.array (.object oOb))) (by decide) rfl rfl (g:=(mkF m 8 #[oR b6] [vR wd,vR b6])) rfl rfl (hb hby d3_8)
  have Fw14:=Fld.same W14 g12_1
  have K14:Keep h0 h14 [b6]:=KK12.wr W14 oI0
  have N14:=Fr.snoc X14 N12 n_b6
  refine oJ 11 #[oR b6] [] st14 ?_
  refine own_ret X14 (v:=none) (fun _=>rfl) Bs (fun fs hr=>X14.returnOut hx Br (hb hby d3_11) hr) ?_ (by decide) (by decide)
  unfold Q3a2
  rw [e14]
  exact ⟨rfl,N14,K14,(g12_0.other W14 (Or.inr (sn_31_34 hw))),Fw14,(g12_2.other W14 (Or.inr (sn_59_34 hw)))⟩
def own_t11:Nat→Option (Instr × Nat):=tB 1 (tB 0 (tP 0 (.iload_n 0)) (tP 1 (.iload_n 1))) (tB 2 (tQ 2 (.if_icmp .lt 7) 3) (tB 5 (tP 5 (.iload_n 0)) (tQ 6 (.goto 4) 3)))
theorem own_ok11:∀ pc q,own_fetch 11 own_t11 pc = some q→decode jdk_29_method_65_code pc = .ok q:=own_tab (by decide +kernel)
theorem d11_10:decode jdk_29_method_65_code 10 = .ok (.ireturn,1):=by decide +kernel
def Q11a11 (Z:State)  (h0:Heap)(n0:Nat)(v:Option Value)(h:Heap)(L:List Loc):Prop:=v = some (vI 10)∧Fr n0 L∧h = h0
set_option maxRecDepth 65536 in
set_option maxHeartbeats 40000000 in
theorem rm11a11 (l:Launch)(Z:State)(a0:Array Value)(hw:HW a0 Z)(ws:List Jvm.Cond)  (h0:Heap)(n0:Nat)(Z0:n0≤h0.size) :
    own_Met l mn3 jdk_29_method_65_code 2 (some .int) ws (oRm 0 0 0 0) #[vI 10,vI 1] Z h0 (Q11a11 Z  h0 n0):=by
  refine own_met (own:="java/lang/Math") rfl (Jvm.Free.JP.mathPlain rfl (by decide +kernel)) ?_
  intro p e s m below meth c s₁ hx hby hml hZ hown hnm X0 e0 Br Bs
  have N0:=Fr.nil n0
  have tt:=own_tt hx hby own_ok11
  refine oV 0 #[oI 10,oI 1] [] ?_
  refine oG X0 tt 5 10 #[oI 10,oI 1] [vI 10] rfl ?_
  refine own_ret X0 (v:=some (vI 10)) (oN Br) Bs (fun fs hr=>retI X0 hx Br (hb hby d11_10) hr) ?_ (by decide) (by decide)
  unfold Q11a11
  exact ⟨rfl,N0,e0⟩
theorem pd7:parseMethodDescriptor "(II)I" = some ⟨[.int,.int],some .int⟩:=by decide +kernel
def own_t10:Nat→Option (Instr × Nat):=tB 7 (tB 4 (tB 0 (tP 0 (.aload_n 0)) (tB 1 (tQ 1 (.getfield 9) 3) (tP 4 .arraylength))) (tB 5 (tP 5 (.istore_n 2)) (tB 6 (tP 6 (.iload_n 2)) (tQ 7 (.ifCond .gt 13) 3)))) (tB 45 (tB 10 (tP 10 (.aload_n 0)) (tB 11 (tQ 11 (.getfield 9) 3) (tP 45 (.aload_n 0)))) (tB 46 (tQ 46 (.bipush 10) 2) (tB 48 (tP 48 (.iload_n 1)) (tP 55 .dup_x1))))
theorem own_ok10:∀ pc q,own_fetch 60 own_t10 pc = some q→decode jdk_38_method_6_code pc = .ok q:=own_tab (by decide +kernel)
theorem d10_14:decode jdk_38_method_6_code 14 = .ok (.getstatic 39,3):=by decide +kernel
theorem d10_17:decode jdk_38_method_6_code 17 = .ok (.if_acmp .eq 28,3):=by decide +kernel
theorem d10_49:decode jdk_38_method_6_code 49 = .ok (.invokestatic 79,3):=by decide +kernel
theorem d10_52:decode jdk_38_method_6_code 52 = .ok (.anewarray 7,3):=by decide +kernel
theorem d10_56:decode jdk_38_method_6_code 56 = .ok (.putfield 9,3):=by decide +kernel
theorem d10_59:decode jdk_38_method_6_code 59 = .ok (.areturn,1):=by decide +kernel
def Q10a10 (Z:State)(b6:Addr)(h0:Heap)(n0:Nat)(v:Option Value)(h:Heap)(L:List Loc):Prop:=∃ (b31:Addr)(k31:ClassId),v = some (vR b31)∧Fr n0 L∧Keep h0 h [b6]∧n0≤b31∧h0.size≤b31∧oF0 Z h b6 (vI 1)∧oF1 Z h b6 (vR b31)∧oF2 Z h b6 (vI 0)∧Arv Z h b31 k31 (.object oOb) 10 own_ls0 .null∧Ovr Z k31 oOb
set_option maxRecDepth 65536 in
set_option maxHeartbeats 40000000 in
theorem rm10a10 (l:Launch)(Z:State)(a0:Array Value)(hw:HW a0 Z)(ws:List Jvm.Cond)(b6 wd:Addr)(kd:ClassId)(h0:Heap)(n0:Nat)(Z0:n0≤h0.size)(PS0:Sta Z h0 "java/util/ArrayList" "DEFAULTCAPACITY_EMPTY_ELEMENTDATA" "[Ljava/lang/Object;" (vR wd))(PV1:Arv Z h0 wd kd (.object oOb) 0 [] .null)(PE9:Exa Z h0 b6 "java/util/ArrayList")(PF10:oF0 Z h0 b6 (vI 1))(PF11:oF1 Z h0 b6 (vR wd))(PF12:oF2 Z h0 b6 (vI 0))(n_b6:n0≤b6) :
    own_Met l mn4 jdk_38_method_6_code 4 (some (.array (.object oOb))) ws (oRm 1 1 10 14) #[vR b6,vI 1] Z h0 (Q10a10 Z b6 h0 n0):=by
  refine own_met (own:="java/util/ArrayList") rfl (plainFor_of_name pn_6) ?_
  intro p e s m below meth c s₁ hx hby hml hZ hown hnm X0 e0 Br Bs
  have N0:=Fr.nil n0
  have tt:=own_tt hx hby own_ok10
  refine oV 0 #[oR b6,oI 1,oU,oU] [] ?_
  refine oX2 a0 [b6,wd] [0,kd] [fE10_9 0 (vR 1)] [] [] [1] 2 [oR 0,oI 1,oU,oU] [] [(1,(.object oOb),0,[])] 14 [oR 0,oI 1,oI 0,oU] [vR 1] [] tt hZ hown X0 N0 e0 (oA (ow33 hw) trivial) trivial (oA PF11 trivial) (oA PV1 trivial) (Or.inl rfl) trivial rfl rfl (by decide +kernel) 8 (by decide +kernel) fun T28 h28 _ X28 N28 e28 K28 q28 M28=>?_
  have e28:=e28.trans (q28 rfl)
  refine oV 14 #[oR b6,oI 1,oI 0,oU] [vR wd] ?_
  obtain ⟨T29,X29,e29,st29⟩:=getS2 X28 hx hZ hown (host:="") (Or.inl (ow32 hw)) Via.refl e28 PS0 (g:=(mkF m 14 #[oR b6,oI 1,oI 0,oU] [vR wd])) rfl (hb hby d10_14)
  refine own_go (T':=T29) (f':=(mkF m 49 #[oR b6,oI 1,oI 0,oU] [vI 1,vI 10,vR b6])) (fun _ k=>st29 _ (Jvm.RoadKit.acmp (g:=(mkF m 17 #[oR b6,oI 1,oI 0,oU] [vR wd,vR wd])) X29 hx rfl rfl rfl (pc0:=17) (pc':=45) (same:=true) rfl (hb hby d10_17) rfl (decide_eq_true rfl) (by decide) (by decide) (own_e X29 tt 45 3 k rfl))) ?_
  refine own_cS X29 hx hZ hown e29 (ow75 hw) (ow76 hw) (ow77 hw) (ow78 hw) (y:=mn3) (argsL:=[vI 10,vI 1]) (rest:=[vR b6]) (W:=1) hml.symm (hb hby d10_49) (lenOf pd7 rfl) rfl (by decide) (rm11a11 l Z a0 hw []  h0 n0 Z0 ) fun _ T30 _ X30 hQ30=>?_
  obtain ⟨rfl,N30q,hh30⟩:=hQ30
  have N30:=Fr.app N28 N30q
  obtain ⟨_,X30,N30⟩:=own_hide X30 N30
  refine oV 52 #[oR b6,oI 1,oI 0,oU] [vI 10,vR b6] ?_
  obtain ⟨T31,h31,k31,X31,e31,E31,A31,O31,st31⟩:=newR X30 hx hZ hown (ow79 hw) (ow80 hw) hh30 (g:=(mkF m 52 #[oR b6,oI 1,oI 0,oU] [vI 10,vR b6])) rfl (hb hby d10_52) rfl (by decide) (cap:=10) (by decide) (by decide) (by decide) (by decide)
  obtain ⟨b31,g_b31⟩:∃ z,z = h0.size:=⟨_,rfl⟩
  have sg_b31:h0.size≤b31:=Nat.le_of_eq g_b31.symm
  rw [← g_b31] at A31 st31
  have n_b31:=oT Z0 sg_b31
  have sz_b31:=oT (Keep.refl h0 [b6]).1 sg_b31
  have K31:Keep h0 h31 [b6]:=(Keep.refl h0 [b6]).ext E31
  have V_b31:Arv Z h31 b31 k31 (.object oOb) 10 own_ls0 .null:=(Arv.new A31 (by decide)).pad (pad_rep [] .null 10)
  refine oH st31 X31 tt 1 56 #[oR b6,oI 1,oI 0,oU] [vR b31,vR b6,vR b31] rfl ?_
  obtain ⟨T32,h32,X32,e32,W32,st32⟩:=putF X31 hx hZ hown (host:="") (Or.inl (ow33 hw)) Via.refl e31 (PF11.ext E31) (PE9.ext E31) (Or.inl (ow34 hw)) (ow12 hw) (ty:=(.array (.object oOb))) (by decide) rfl rfl (g:=(mkF m 56 #[oR b6,oI 1,oI 0,oU] [vR b31,vR b6,vR b31])) rfl rfl (hb hby d10_56)
  have Fw32:=Fld.same W32 (PF11.ext E31)
  have K32:Keep h0 h32 [b6]:=K31.wr W32 oI0
  have N32:=Fr.snoc X32 N30 n_b6
  refine oJ 59 #[oR b6,oI 1,oI 0,oU] [vR b31] st32 ?_
  refine own_ret X32 (v:=some (vR b31)) (oN Br) Bs (fun fs hr=>own_retA X32 hx Br rfl rfl (hb hby d10_59) hr) ?_ (by decide) (by decide)
  unfold Q10a10
  rw [e32]
  exact ⟨b31,k31,rfl,N32,K32,n_b31,sz_b31,((PF10.ext E31).other W32 (Or.inr (sn_31_34 hw))),Fw32,((PF12.ext E31).other W32 (Or.inr (sn_59_34 hw))),(V_b31.other W32 (oM PE9.lt sz_b31)),O31⟩
theorem pd6:parseMethodDescriptor "(I)[Ljava/lang/Object;" = some ⟨[.int],some (.array (.object oOb))⟩:=by decide +kernel
def own_t9:Nat→Option (Instr × Nat):=tB 1 (tB 0 (tP 0 (.aload_n 0)) (tP 1 (.aload_n 0))) (tB 2 (tQ 2 (.getfield 48) 3) (tB 5 (tP 5 (.iconst 1)) (tP 6 .iadd)))
theorem own_ok9:∀ pc q,own_fetch 11 own_t9 pc = some q→decode jdk_38_method_7_code pc = .ok q:=own_tab (by decide +kernel)
theorem d9_7:decode jdk_38_method_7_code 7 = .ok (.invokevirtual 69,3):=by decide +kernel
theorem d9_10:decode jdk_38_method_7_code 10 = .ok (.areturn,1):=by decide +kernel
def Q9a9 (Z:State)(b6:Addr)(h0:Heap)(n0:Nat)(v:Option Value)(h:Heap)(L:List Loc):Prop:=∃ (b33a:Addr)(k33b:ClassId),v = some (vR b33a)∧Fr n0 L∧Keep h0 h [b6]∧n0≤b33a∧h0.size≤b33a∧oF0 Z h b6 (vI 1)∧oF1 Z h b6 (vR b33a)∧oF2 Z h b6 (vI 0)∧Arv Z h b33a k33b (.object oOb) 10 own_ls0 .null∧Ovr Z k33b oOb
set_option maxRecDepth 65536 in
set_option maxHeartbeats 40000000 in
theorem rm9a9 (l:Launch)(Z:State)(a0:Array Value)(hw:HW a0 Z)(ws:List Jvm.Cond)(b6 wd:Addr)(kd:ClassId)(h0:Heap)(n0:Nat)(Z0:n0≤h0.size)(PS0:Sta Z h0 "java/util/ArrayList" "DEFAULTCAPACITY_EMPTY_ELEMENTDATA" "[Ljava/lang/Object;" (vR wd))(PV1:Arv Z h0 wd kd (.object oOb) 0 [] .null)(PE9:Exa Z h0 b6 "java/util/ArrayList")(PF10:oF0 Z h0 b6 (vI 1))(PF11:oF1 Z h0 b6 (vR wd))(PF12:oF2 Z h0 b6 (vI 0))(n_b6:n0≤b6) :
    own_Met l mn5 jdk_38_method_7_code 1 (some (.array (.object oOb))) ws (oRm 2 1 10 29) #[vR b6] Z h0 (Q9a9 Z b6 h0 n0):=by
  refine own_met (own:="java/util/ArrayList") rfl (plainFor_of_name pn_6) ?_
  intro p e s m below meth c s₁ hx hby hml hZ hown hnm X0 e0 Br Bs
  have N0:=Fr.nil n0
  have tt:=own_tt hx hby own_ok9
  refine oV 0 #[oR b6] [] ?_
  refine oX2 a0 [b6] [0] [fE9_48 0 (vI 0)] [] [] [] 1 [oR 0] [] [] 7 [oR 0] [vI 1,vR 0] [] tt hZ hown X0 N0 e0 (oA (ow58 hw) trivial) trivial (oA PF12 trivial) trivial (Or.inl rfl) trivial rfl rfl (by decide +kernel) 5 (by decide +kernel) fun T27 h27 _ X27 N27 e27 K27 q27 M27=>?_
  have e27:=e27.trans (q27 rfl)
  refine oV 7 #[oR b6] [vI 1,vR b6] ?_
  refine own_cP X27 hx hZ hown e27 (ow70 hw) (ow71 hw) (mvT hZ (ow73 hw)) (ow72 hw) (ow13 hw) (ow74 hw) PE9 (y:=mn4) (argsL:=[vI 1]) (rest:=[]) (W:=0) hml.symm (hb hby d9_7) (lenOf pd6 rfl) rfl (by decide) (rm10a10 l Z a0 hw [] b6 wd kd h0 n0 Z0 PS0 PV1 PE9 PF10 PF11 PF12 n_b6) fun _ T33 _ X33 hQ33=>?_
  obtain ⟨b33a,k33b,rfl,N33q,K33,n_b33a,sg_b33a,g33_0,g33_1,g33_2,g33_3,g33_4⟩:=hQ33
  have N33:=Fr.app N27 N33q
  have sz_b33a:=oT (Keep.refl h0 [b6]).1 sg_b33a
  have eK33:T33.heap = T33.heap:=rfl
  have KK33:Keep h0 T33.heap [b6]:=Keep.trans (Keep.refl h0 [b6]) K33 (allS oI0 all0)
  obtain ⟨_,X33,N33⟩:=own_hide X33 N33
  refine oV 10 #[oR b6] [vR b33a] ?_
  refine own_ret X33 (v:=some (vR b33a)) (oN Br) Bs (fun fs hr=>own_retA X33 hx Br rfl rfl (hb hby d9_10) hr) ?_ (by decide) (by decide)
  unfold Q9a9
  rw [eK33]
  exact ⟨b33a,k33b,rfl,N33,KK33,n_b33a,sz_b33a,g33_0,g33_1,g33_2,g33_3,g33_4⟩
theorem pd3:parseMethodDescriptor "()[Ljava/lang/Object;" = some ⟨[],some (.array (.object oOb))⟩:=by decide +kernel
def own_t8:Nat→Option (Instr × Nat):=tB 10 (tB 2 (tB 0 (tP 0 (.iload_n 3)) (tB 1 (tP 1 (.aload_n 2)) (tP 2 .arraylength))) (tB 3 (tQ 3 (.if_icmp .ne 8) 3) (tB 6 (tP 6 (.aload_n 0)) (tP 10 (.astore_n 2))))) (tB 13 (tB 11 (tP 11 (.aload_n 2)) (tB 12 (tP 12 (.iload_n 3)) (tP 13 (.aload_n 1)))) (tB 16 (tB 15 (tP 15 (.aload_n 0)) (tP 16 (.iload_n 3))) (tB 17 (tP 17 (.iconst 1)) (tP 18 .iadd))))
theorem own_ok8:∀ pc q,own_fetch 23 own_t8 pc = some q→decode jdk_38_method_24_code pc = .ok q:=own_tab (by decide +kernel)
theorem d8_7:decode jdk_38_method_24_code 7 = .ok (.invokevirtual 129,3):=by decide +kernel
theorem d8_14:decode jdk_38_method_24_code 14 = .ok (.aastore,1):=by decide +kernel
theorem d8_19:decode jdk_38_method_24_code 19 = .ok (.putfield 48,3):=by decide +kernel
theorem d8_22:decode jdk_38_method_24_code 22 = .ok (.return_,1):=by decide +kernel
def Q8a8 (Z:State)(b6 b21:Addr)(h0:Heap)(n0:Nat)(v:Option Value)(h:Heap)(L:List Loc):Prop:=∃ (b34a:Addr)(k34b:ClassId),v = none∧Fr n0 L∧Keep h0 h [b6]∧n0≤b34a∧h0.size≤b34a∧oF0 Z h b6 (vI 1)∧oF1 Z h b6 (vR b34a)∧oF2 Z h b6 (vI 1)∧Arv Z h b34a k34b (.object oOb) 10 [vR b21,.null,.null,.null,.null,.null,.null,.null,.null,.null] .null∧Ovr Z k34b oOb
set_option maxRecDepth 65536 in
set_option maxHeartbeats 40000000 in
theorem rm8a8 (l:Launch)(Z:State)(a0:Array Value)(hw:HW a0 Z)(ws:List Jvm.Cond)(b6 b21 wd:Addr)(kd:ClassId)(h0:Heap)(n0:Nat)(Z0:n0≤h0.size)(PS0:Sta Z h0 "java/util/ArrayList" "DEFAULTCAPACITY_EMPTY_ELEMENTDATA" "[Ljava/lang/Object;" (vR wd))(PV1:Arv Z h0 wd kd (.object oOb) 0 [] .null)(PE9:Exa Z h0 b6 "java/util/ArrayList")(PF10:oF0 Z h0 b6 (vI 1))(PF11:oF1 Z h0 b6 (vR wd))(PF12:oF2 Z h0 b6 (vI 0))(PE16:Exa Z h0 b21 "[I")(n_b6:n0≤b6) :
    own_Met l mn6 jdk_38_method_24_code 4 none ws (oRm 3 1 10 41) #[vR b6,vR b21,vR wd,vI 0] Z h0 (Q8a8 Z b6 b21 h0 n0):=by
  refine own_met (own:="java/util/ArrayList") rfl (plainFor_of_name pn_6) ?_
  intro p e s m below meth c s₁ hx hby hml hZ hown hnm X0 e0 Br Bs
  have N0:=Fr.nil n0
  have tt:=own_tt hx hby own_ok8
  refine oV 0 #[oR b6,oR b21,oR wd,oI 0] [] ?_
  refine oX2 a0 [b21,b6,wd] [0,0,kd] [] [] [] [2] 3 [oR 1,oR 0,oR 2,oI 0] [] [(2,(.object oOb),0,[])] 7 [oR 1,oR 0,oR 2,oI 0] [vR 1] [] tt hZ hown X0 N0 e0 trivial trivial trivial (oA PV1 trivial) (Or.inl rfl) trivial rfl rfl (by decide +kernel) 5 (by decide +kernel) fun T26 h26 _ X26 N26 e26 K26 q26 M26=>?_
  have e26:=e26.trans (q26 rfl)
  refine oV 7 #[oR b6,oR b21,oR wd,oI 0] [vR b6] ?_
  refine own_cP X26 hx hZ hown e26 (ow65 hw) (ow66 hw) (mvT hZ (ow68 hw)) (ow67 hw) (ow13 hw) (ow69 hw) PE9 (y:=mn5) (argsL:=[]) (rest:=[]) (W:=0) hml.symm (hb hby d8_7) (lenOf pd3 rfl) rfl (by decide) (rm9a9 l Z a0 hw [] b6 wd kd h0 n0 Z0 PS0 PV1 PE9 PF10 PF11 PF12 n_b6) fun _ T34 _ X34 hQ34=>?_
  obtain ⟨b34a,k34b,rfl,N34q,K34,n_b34a,sg_b34a,g34_0,g34_1,g34_2,g34_3,g34_4⟩:=hQ34
  have N34:=Fr.app N26 N34q
  have sz_b34a:=oT (Keep.refl h0 [b6]).1 sg_b34a
  have eK34:T34.heap = T34.heap:=rfl
  have KK34:Keep h0 T34.heap [b6]:=Keep.trans (Keep.refl h0 [b6]) K34 (allS oI0 all0)
  obtain ⟨_,X34,N34⟩:=own_hide X34 N34
  refine oV 10 #[oR b6,oR b21,oR wd,oI 0] [vR b34a] ?_
  refine oG X34 tt 4 14 #[oR b6,oR b21,oR b34a,oI 0] [vR b21,vI 0,vR b34a] rfl ?_
  obtain ⟨T35,h35,X35,e35,W35,V35,st35⟩:=own_stR X34 hx hZ eK34 g34_3 (j:=(0:Int32)) ⟨by decide,by decide⟩ rfl rfl (fun cl Ar q=>Sto.ofV Ar q g34_4 (Ins.of_exa (PE16.keep K34) (ow81 hw))) 0 rfl (Nat.le_of_ble_eq_true rfl) (g:=(mkF m 14 #[oR b6,oR b21,oR b34a,oI 0] [vR b21,vI 0,vR b34a])) rfl rfl (hb hby d8_14)
  have K35:Keep h0 h35 [b6]:=KK34.wr W35 (Or.inr sz_b34a)
  have V35s:Arv Z h35 b34a k34b (.object oOb) 10 [vR b21,.null,.null,.null,.null,.null,.null,.null,.null,.null] .null:=V35
  have N35:=Fr.snoc X35 N34 n_b34a
  refine oH st35 X35 tt 4 19 #[oR b6,oR b21,oR b34a,oI 0] [vI 1,vR b6] rfl ?_
  obtain ⟨T36,h36,X36,e36,W36,st36⟩:=putF X35 hx hZ hown (host:="") (Or.inl (ow58 hw)) Via.refl e35 (g34_2.other W35 (Or.inl (oL PE9.lt sz_b34a))) ((PE9.keep K34).wr W35) (Or.inl (ow59 hw)) (ow12 hw) (ty:=.int) (by decide) rfl rfl (g:=(mkF m 19 #[oR b6,oR b21,oR b34a,oI 0] [vI 1,vR b6])) rfl rfl (hb hby d8_19)
  have Fw36:=Fld.same W36 (g34_2.other W35 (Or.inl (oL PE9.lt sz_b34a)))
  have K36:Keep h0 h36 [b6]:=K35.wr W36 oI0
  have N36:=Fr.snoc X36 N35 n_b6
  refine oJ 22 #[oR b6,oR b21,oR b34a,oI 0] [] st36 ?_
  refine own_ret X36 (v:=none) (fun _=>rfl) Bs (fun fs hr=>X36.returnOut hx Br (hb hby d8_22) hr) ?_ (by decide) (by decide)
  unfold Q8a8
  have G37:=((g34_0.other W35 (Or.inl (oL PE9.lt sz_b34a))).other W36 (Or.inr (sn_31_59 hw)))
  have G38:=((g34_1.other W35 (Or.inl (oL PE9.lt sz_b34a))).other W36 (Or.inr (sn_34_59 hw)))
  rw [e36]
  exact ⟨b34a,k34b,rfl,N36,K36,n_b34a,sz_b34a,G37,G38,Fw36,(V35s.other W36 (oM PE9.lt sz_b34a)),g34_4⟩
theorem pd14:parseMethodDescriptor "(Ljava/lang/Object;[Ljava/lang/Object;I)V" = some ⟨[(.object oOb),(.array (.object oOb)),.int],none⟩:=by decide +kernel
def own_t7:Nat→Option (Instr × Nat):=tB 10 (tB 2 (tB 0 (tP 0 (.aload_n 0)) (tB 1 (tP 1 .dup) (tQ 2 (.getfield 63) 3))) (tB 5 (tP 5 (.iconst 1)) (tB 6 (tP 6 .iadd) (tP 10 (.aload_n 0))))) (tB 13 (tB 11 (tP 11 (.aload_n 1)) (tB 12 (tP 12 (.aload_n 0)) (tQ 13 (.getfield 9) 3))) (tB 16 (tP 16 (.aload_n 0)) (tB 17 (tQ 17 (.getfield 48) 3) (tP 23 (.iconst 1)))))
theorem own_ok7:∀ pc q,own_fetch 25 own_t7 pc = some q→decode jdk_38_method_25_code pc = .ok q:=own_tab (by decide +kernel)
theorem d7_2:decode jdk_38_method_25_code 2 = .ok (.getfield 63,3):=by decide +kernel
theorem d7_7:decode jdk_38_method_25_code 7 = .ok (.putfield 63,3):=by decide +kernel
theorem d7_20:decode jdk_38_method_25_code 20 = .ok (.invokevirtual 131,3):=by decide +kernel
theorem d7_24:decode jdk_38_method_25_code 24 = .ok (.ireturn,1):=by decide +kernel
def Q7a7 (Z:State)(b6 b21:Addr)(h0:Heap)(n0:Nat)(v:Option Value)(h:Heap)(L:List Loc):Prop:=∃ (b39a:Addr)(k39b:ClassId),v = some (vI 1)∧Fr n0 L∧Keep h0 h [b6]∧n0≤b39a∧h0.size≤b39a∧oF0 Z h b6 (vI 1)∧oF1 Z h b6 (vR b39a)∧oF2 Z h b6 (vI 1)∧Arv Z h b39a k39b (.object oOb) 10 [vR b21,.null,.null,.null,.null,.null,.null,.null,.null,.null] .null∧Ovr Z k39b oOb
set_option maxRecDepth 65536 in
set_option maxHeartbeats 40000000 in
theorem rm7a7 (l:Launch)(Z:State)(a0:Array Value)(hw:HW a0 Z)(ws:List Jvm.Cond)(b6 b21 wd:Addr)(kd:ClassId)(h0:Heap)(n0:Nat)(Z0:n0≤h0.size)(PS0:Sta Z h0 "java/util/ArrayList" "DEFAULTCAPACITY_EMPTY_ELEMENTDATA" "[Ljava/lang/Object;" (vR wd))(PV1:Arv Z h0 wd kd (.object oOb) 0 [] .null)(PE9:Exa Z h0 b6 "java/util/ArrayList")(PF10:oF0 Z h0 b6 (vI 0))(PF11:oF1 Z h0 b6 (vR wd))(PF12:oF2 Z h0 b6 (vI 0))(PE16:Exa Z h0 b21 "[I")(ne_wd_b6:wd≠b6)(n_b6:n0≤b6) :
    own_Met l mn7 jdk_38_method_25_code 2 (some .boolean) ws (oRm 4 1 10 56) #[vR b6,vR b21] Z h0 (Q7a7 Z b6 b21 h0 n0):=by
  refine own_met (own:="java/util/ArrayList") rfl (plainFor_of_name pn_6) ?_
  intro p e s m below meth c s₁ hx hby hml hZ hown hnm X0 e0 Br Bs
  have N0:=Fr.nil n0
  have tt:=own_tt hx hby own_ok7
  refine oV 0 #[oR b6,oR b21] [] ?_
  refine oG X0 tt 2 2 #[oR b6,oR b21] [vR b6,vR b6] rfl ?_
  obtain ⟨T23,X23,e23,st23⟩:=getF X0 hx hZ hown (host:="") (Or.inl (ow56 hw)) (Via.of (ow57 hw)) e0 PF10 (g:=(mkF m 2 #[oR b6,oR b21] [vR b6,vR b6])) rfl rfl (hb hby d7_2)
  refine oH st23 X23 tt 2 7 #[oR b6,oR b21] [vI 1,vR b6] rfl ?_
  obtain ⟨T24,h24,X24,e24,W24,st24⟩:=putF X23 hx hZ hown (host:="") (Or.inl (ow56 hw)) (Via.of (ow57 hw)) e23 PF10 PE9 (Or.inl (ow31 hw)) (ow12 hw) (ty:=.int) (by decide) rfl rfl (g:=(mkF m 7 #[oR b6,oR b21] [vI 1,vR b6])) rfl rfl (hb hby d7_7)
  have Fw24:=Fld.same W24 PF10
  have K24:Keep h0 h24 [b6]:=(Keep.refl h0 [b6]).wr W24 oI0
  have N24:=Fr.snoc X24 N0 n_b6
  refine oJ 10 #[oR b6,oR b21] [] st24 ?_
  refine oX2 a0 [b21,b6,wd] [0,0,0] [fE7_9 1 (vR 2),fE7_48 1 (vI 0)] [] [] [] 3 [oR 1,oR 0] [] [] 20 [oR 1,oR 0] [vI 0,vR 2,vR 0,vR 1] [] tt hZ hown X24 N24 e24 (oA (ow33 hw) (oA (ow58 hw) trivial)) trivial (oA (PF11.other W24 (Or.inr (sn_34_31 hw))) (oA (PF12.other W24 (Or.inr (sn_59_31 hw))) trivial)) trivial (Or.inl rfl) trivial rfl rfl (by decide +kernel) 6 (by decide +kernel) fun T25 h25 _ X25 N25 e25 K25 q25 M25=>?_
  have e25:=e25.trans (q25 rfl)
  refine oV 20 #[oR b6,oR b21] [vI 0,vR wd,vR b21,vR b6] ?_
  refine own_cP X25 hx hZ hown e25 (ow60 hw) (ow61 hw) (mvT hZ (ow63 hw)) (ow62 hw) (ow13 hw) (ow64 hw) (PE9.wr W24) (y:=mn6) (argsL:=[vR b21,vR wd,vI 0]) (rest:=[]) (W:=0) hml.symm (hb hby d7_20) (lenOf pd14 rfl) rfl (by decide) (rm8a8 l Z a0 hw [] b6 b21 wd kd h24 n0 (oT Z0 (Keep.of_wr W24).1) (PS0.wr W24) (PV1.other W24 ne_wd_b6) (PE9.wr W24) Fw24 (PF11.other W24 (Or.inr (sn_34_31 hw))) (PF12.other W24 (Or.inr (sn_59_31 hw))) (PE16.wr W24) n_b6) fun _ T39 _ X39 hQ39=>?_
  obtain ⟨b39a,k39b,rfl,N39q,K39,n_b39a,sg_b39a,g39_0,g39_1,g39_2,g39_3,g39_4⟩:=hQ39
  have N39:=Fr.app N25 N39q
  have sz_b39a:=oT K24.1 sg_b39a
  have eK39:T39.heap = T39.heap:=rfl
  have KK39:Keep h0 T39.heap [b6]:=Keep.trans K24 K39 (allS oI0 all0)
  obtain ⟨_,X39,N39⟩:=own_hide X39 N39
  refine oV 23 #[oR b6,oR b21] [] ?_
  refine oG X39 tt 1 24 #[oR b6,oR b21] [vI 1] rfl ?_
  refine own_ret X39 (v:=some (vI 1)) (oN Br) Bs (fun fs hr=>retN X39 hx (t:=.boolean) Br (by simp) (hb hby d7_24) hr) ?_ (by decide) (by decide)
  unfold Q7a7
  rw [eK39]
  exact ⟨b39a,k39b,rfl,N39,KK39,n_b39a,sz_b39a,g39_0,g39_1,g39_2,g39_3,g39_4⟩
theorem pd13:parseMethodDescriptor "(Ljava/lang/Object;)Z" = some ⟨[(.object oOb)],some .boolean⟩:=by decide +kernel
def own_t6:Nat→Option (Instr × Nat):=tB 35 (tB 24 (tB 6 (tB 2 (tB 0 (tQ 0 (.iload 4) 2) (tP 2 (.iload_n 1))) (tB 3 (tQ 3 (.if_icmp .ne 21) 3) (tQ 6 (.aload 5) 2))) (tB 20 (tB 8 (tP 8 (.aload_n 3)) (tP 20 .pop)) (tB 21 (tQ 21 (.goto 45) 3) (tP 24 (.iload_n 2))))) (tB 30 (tB 27 (tB 25 (tQ 25 (.istore 6) 2) (tQ 27 (.iload 6) 2)) (tB 29 (tP 29 (.iload_n 0)) (tP 30 (.iload_n 1)))) (tB 33 (tB 31 (tQ 31 (.iload 4) 2) (tP 33 .isub)) (tB 34 (tP 34 .isub) (tQ 35 (.if_icmp .gt 31) 3))))) (tB 48 (tB 43 (tB 39 (tB 38 (tP 38 (.aload_n 3)) (tQ 39 (.iload 4) 2)) (tB 41 (tQ 41 (.iload 6) 2) (tP 43 .iastore))) (tB 45 (tB 44 (tP 44 (.iload_n 0)) (tP 45 (.iload_n 1))) (tB 46 (tQ 46 (.iload 6) 2) (tP 48 (.iconst 1))))) (tB 53 (tB 50 (tB 49 (tP 49 .iadd) (tP 50 (.aload_n 3))) (tB 51 (tQ 51 (.iload 4) 2) (tP 53 (.iconst 1)))) (tB 55 (tB 54 (tP 54 .iadd) (tQ 55 (.aload 5) 2)) (tB 60 (tQ 60 (.iinc 6 1) 3) (tQ 63 (.goto (-36)) 3)))))
theorem own_ok6:∀ pc q,own_fetch 67 own_t6 pc = some q→decode prog_28_method_10_code pc = .ok q:=own_tab (by decide +kernel)
theorem d6_9:decode prog_28_method_10_code 9 = .ok (.invokevirtual 88,3):=by decide +kernel
theorem d6_12:decode prog_28_method_10_code 12 = .ok (.checkcast 40,3):=by decide +kernel
theorem d6_15:decode prog_28_method_10_code 15 = .ok (.invokeinterface 92 2,5):=by decide +kernel
theorem d6_66:decode prog_28_method_10_code 66 = .ok (.return_,1):=by decide +kernel
theorem pn_0:plainName oLy = true:=by first | (simp [plainName,overriddenIn]; done) | decide +kernel
def Q6a6 (Z:State)(b6:Addr)(k17:ClassId)(h0:Heap)(n0:Nat)(v:Option Value)(h:Heap)(L:List Loc):Prop:=∃ (b40a:Addr)(k40b:ClassId)(b21:Addr),v = none∧Fr n0 L∧Keep h0 h [b6]∧n0≤b40a∧h0.size≤b40a∧n0≤b21∧h0.size≤b21∧b21≠b40a∧oF0 Z h b6 (vI 1)∧oF1 Z h b6 (vR b40a)∧oF2 Z h b6 (vI 1)∧Arv Z h b40a k40b (.object oOb) 10 [vR b21,.null,.null,.null,.null,.null,.null,.null,.null,.null] .null∧Ovr Z k40b oOb∧Arv Z h b21 k17 .int 1 [vI 0] (vI 0)∧Exa Z h b21 "[I"
set_option maxRecDepth 65536 in
set_option maxHeartbeats 40000000 in
theorem rm6a6 (l:Launch)(Z:State)(a0:Array Value)(hw:HW a0 Z)(ws:List Jvm.Cond)(b17 b6 wd:Addr)(kd k17:ClassId)(h0:Heap)(n0:Nat)(Z0:n0≤h0.size)(PS0:Sta Z h0 "java/util/ArrayList" "DEFAULTCAPACITY_EMPTY_ELEMENTDATA" "[Ljava/lang/Object;" (vR wd))(PV1:Arv Z h0 wd kd (.object oOb) 0 [] .null)(PE9:Exa Z h0 b6 "java/util/ArrayList")(PF10:oF0 Z h0 b6 (vI 0))(PF11:oF1 Z h0 b6 (vR wd))(PF12:oF2 Z h0 b6 (vI 0))(PV13:Arv Z h0 b17 k17 .int 1 [vI 0] (vI 0))(PE14:Exa Z h0 b17 "[I")(ne_wd_b6:wd≠b6)(n_b6:n0≤b6) :
    own_Met l mn9 prog_28_method_10_code 7 none ws (oRm 5 2 11 69) #[vI 1,vI 1,vI 1,vR b17,vI 1,vR b6] Z h0 (Q6a6 Z b6 k17 h0 n0):=by
  refine own_met (own:=oLy) rfl (plainFor_of_name pn_0) ?_
  intro p e s m below meth c s₁ hx hby hml hZ hown hnm X0 e0 Br Bs
  have N0:=Fr.nil n0
  have tt:=own_tt hx hby own_ok6
  refine oV 0 #[oI 1,oI 1,oI 1,oR b17,oI 1,oR b6,oU] [] ?_
  refine oG X0 tt 5 9 #[oI 1,oI 1,oI 1,oR b17,oI 1,oR b6,oU] [vR b17,vR b6] rfl ?_
  obtain ⟨T21,h21,X21,e21,E21,A21,EA21,st21⟩:=cloneH X0 hx hZ hown (ow38 hw) (ow39 hw) (ow43 hw) (ow41 hw) (ow42 hw) (ow44 hw) e0 (hs:=[]) PV13 PE14 (g:=(mkF m 9 #[oI 1,oI 1,oI 1,oR b17,oI 1,oR b6,oU] [vR b17,vR b6])) rfl hml.symm rfl (hb hby d6_9) (by decide) (W:=1) (cap:=1) (oZ rfl) (by decide) (by decide) (by decide) (by decide)
  obtain ⟨b21,g_b21⟩:∃ z,z = h0.size:=⟨_,rfl⟩
  have sg_b21:h0.size≤b21:=Nat.le_of_eq g_b21.symm
  rw [← g_b21] at A21 EA21 st21
  have n_b21:=oT Z0 sg_b21
  have sz_b21:=oT (Keep.refl h0 [b6]).1 sg_b21
  have K21:Keep h0 h21 [b6]:=(Keep.refl h0 [b6]).ext E21
  have V_b21:Arv Z h21 b21 k17 .int 1 [vI 0] (vI 0):=A21
  refine oJ 12 #[oI 1,oI 1,oI 1,oR b17,oI 1,oR b6,oU] [vR b21,vR b6] st21 ?_
  obtain ⟨T22,X22,e22,st22⟩:=castY X21 hx hZ hown (ow45 hw) e21 (Ins.self EA21) (g:=(mkF m 12 #[oI 1,oI 1,oI 1,oR b17,oI 1,oR b6,oU] [vR b21,vR b6])) rfl rfl (hb hby d6_12)
  refine oJ 15 #[oI 1,oI 1,oI 1,oR b17,oI 1,oR b6,oU] [vR b21,vR b6] st22 ?_
  refine own_cI X22 hx hZ hown e22 (ow47 hw) (ow48 hw) (mvT hZ (ow49 hw)) (ow50 hw) (ow51 hw) (ow52 hw) (ow53 hw) (ow54 hw) (ow13 hw) (ow55 hw) (PE9.ext E21) (y:=mn8) (z:=mn7) (argsL:=[vR b21]) (rest:=[]) (W:=0) hml.symm (hb hby d6_15) (lenOf pd13 rfl) rfl (by decide) (rm7a7 l Z a0 hw [] b6 b21 wd kd h21 n0 (oT Z0 E21.1) (PS0.ext E21) (PV1.ext E21) (PE9.ext E21) (PF10.ext E21) (PF11.ext E21) (PF12.ext E21) EA21 ne_wd_b6 n_b6) fun _ T40 _ X40 hQ40=>?_
  obtain ⟨b40a,k40b,rfl,N40q,K40,n_b40a,sg_b40a,g40_0,g40_1,g40_2,g40_3,g40_4⟩:=hQ40
  have N40:=Fr.app N0 N40q
  have sz_b40a:=oT K21.1 sg_b40a
  have u41:b21 < h21.size:=V_b21.lt
  have m42:h0.size≤h21.size:=(oT (Nat.le_refl _) E21.1)
  have eK40:T40.heap = T40.heap:=rfl
  have KK40:Keep h0 T40.heap [b6]:=Keep.trans K21 K40 (allS oI0 all0)
  obtain ⟨_,X40,N40⟩:=own_hide X40 N40
  refine oV 20 #[oI 1,oI 1,oI 1,oR b17,oI 1,oR b6,oU] [vI 1] ?_
  refine oG X40 tt 2 66 #[oI 1,oI 1,oI 1,oR b17,oI 1,oR b6,oU] [] rfl ?_
  refine own_ret X40 (v:=none) (fun _=>rfl) Bs (fun fs hr=>X40.returnOut hx Br (hb hby d6_66) hr) ?_ (by decide) (by decide)
  unfold Q6a6
  rw [eK40]
  exact ⟨b40a,k40b,b21,rfl,N40,KK40,n_b40a,sz_b40a,n_b21,sz_b21,(oL u41 sg_b40a),g40_0,g40_1,g40_2,g40_3,g40_4,(V_b21.keep K40 (ninS (oM PE9.lt sz_b21) nin0)),(EA21.keep K40)⟩
theorem pd9:parseMethodDescriptor "(III[IILjava/util/List;)V" = some ⟨[.int,.int,.int,(.array .int),.int,(.object "java/util/List")],none⟩:=by decide +kernel
theorem d6_43:decode prog_28_method_10_code 43 = .ok (.iastore,1):=by decide +kernel
theorem d6_57:decode prog_28_method_10_code 57 = .ok (.invokestatic 12,3):=by decide +kernel
def Q6a5 (Z:State)(b17 b6:Addr)(k17:ClassId)(h0:Heap)(n0:Nat)(v:Option Value)(h:Heap)(L:List Loc):Prop:=∃ (b43a:Addr)(k43b:ClassId)(b43c:Addr),v = none∧Fr n0 L∧Keep h0 h [b17,b6]∧n0≤b43a∧h0.size≤b43a∧n0≤b43c∧h0.size≤b43c∧b43c≠b43a∧Arv Z h b17 k17 .int 1 [vI 0] (vI 0)∧oF0 Z h b6 (vI 1)∧oF1 Z h b6 (vR b43a)∧oF2 Z h b6 (vI 1)∧Arv Z h b43a k43b (.object oOb) 10 [vR b43c,.null,.null,.null,.null,.null,.null,.null,.null,.null] .null∧Ovr Z k43b oOb∧Arv Z h b43c k17 .int 1 [vI 0] (vI 0)∧Exa Z h b43c "[I"
set_option maxRecDepth 65536 in
set_option maxHeartbeats 40000000 in
theorem rm6a5 (l:Launch)(Z:State)(a0:Array Value)(hw:HW a0 Z)(ws:List Jvm.Cond)(b17 b6 wd:Addr)(kd k17:ClassId)(h0:Heap)(n0:Nat)(Z0:n0≤h0.size)(PS0:Sta Z h0 "java/util/ArrayList" "DEFAULTCAPACITY_EMPTY_ELEMENTDATA" "[Ljava/lang/Object;" (vR wd))(PV1:Arv Z h0 wd kd (.object oOb) 0 [] .null)(PE9:Exa Z h0 b6 "java/util/ArrayList")(PF10:oF0 Z h0 b6 (vI 0))(PF11:oF1 Z h0 b6 (vR wd))(PF12:oF2 Z h0 b6 (vI 0))(PV13:Arv Z h0 b17 k17 .int 1 [vI 0] (vI 0))(PE14:Exa Z h0 b17 "[I")(ne_wd_b6:wd≠b6)(ne_wd_b17:wd≠b17)(ne_b6_b17:b6≠b17)(ne_b17_b6:b17≠b6)(n_b17:n0≤b17)(n_b6:n0≤b6) :
    own_Met l mn9 prog_28_method_10_code 7 none ws (oRm 6 2 11 87) #[vI 1,vI 1,vI 0,vR b17,vI 0,vR b6] Z h0 (Q6a5 Z b17 b6 k17 h0 n0):=by
  refine own_met (own:=oLy) rfl (plainFor_of_name pn_0) ?_
  intro p e s m below meth c s₁ hx hby hml hZ hown hnm X0 e0 Br Bs
  have N0:=Fr.nil n0
  have tt:=own_tt hx hby own_ok6
  refine oV 0 #[oI 1,oI 1,oI 0,oR b17,oI 0,oR b6,oU] [] ?_
  refine oG X0 tt 15 43 #[oI 1,oI 1,oI 0,oR b17,oI 0,oR b6,oI 0] [vI 0,vI 0,vR b17] rfl ?_
  obtain ⟨T20,h20,X20,e20,W20,V20,st20⟩:=own_stI X0 hx hZ e0 PV13 (j:=(0:Int32)) ⟨by decide,by decide⟩ 0 rfl (Nat.le_of_ble_eq_true rfl) (g:=(mkF m 43 #[oI 1,oI 1,oI 0,oR b17,oI 0,oR b6,oI 0] [vI 0,vI 0,vR b17])) rfl rfl (hb hby d6_43)
  have K20:Keep h0 h20 [b17,b6]:=(Keep.refl h0 [b17,b6]).wr W20 oI0
  have V20s:Arv Z h20 b17 k17 .int 1 [vI 0] (vI 0):=V20
  have N20:=Fr.snoc X20 N0 n_b17
  refine oH st20 X20 tt 10 57 #[oI 1,oI 1,oI 0,oR b17,oI 0,oR b6,oI 0] [vR b6,vI 1,vR b17,vI 1,vI 1,vI 1] rfl ?_
  refine own_cS X20 hx hZ hown e20 (ow35 hw) (ow36 hw) (ow3 hw) (ow37 hw) (y:=mn9) (argsL:=[vI 1,vI 1,vI 1,vR b17,vI 1,vR b6]) (rest:=[]) (W:=0) hml.symm (hb hby d6_57) (lenOf pd9 rfl) rfl (by decide) (rm6a6 l Z a0 hw [] b17 b6 wd kd k17 h20 n0 (oT Z0 (Keep.of_wr W20).1) (PS0.wr W20) (PV1.other W20 ne_wd_b17) (PE9.wr W20) (PF10.other W20 (Or.inl ne_b6_b17)) (PF11.other W20 (Or.inl ne_b6_b17)) (PF12.other W20 (Or.inl ne_b6_b17)) V20s (PE14.wr W20) ne_wd_b6 n_b6) fun _ T43 _ X43 hQ43=>?_
  obtain ⟨b43a,k43b,b43c,rfl,N43q,K43,n_b43a,sg_b43a,n_b43c,sg_b43c,ne43_0,g43_0,g43_1,g43_2,g43_3,g43_4,g43_5,g43_6⟩:=hQ43
  have N43:=Fr.app N20 N43q
  have sz_b43a:=oT K20.1 sg_b43a
  have sz_b43c:=oT K20.1 sg_b43c
  have eK43:T43.heap = T43.heap:=rfl
  have KK43:Keep h0 T43.heap [b17,b6]:=Keep.trans K20 K43 (allS oI1 all0)
  obtain ⟨_,X43,N43⟩:=own_hide X43 N43
  refine oV 60 #[oI 1,oI 1,oI 0,oR b17,oI 0,oR b6,oI 0] [] ?_
  refine oG X43 tt 9 66 #[oI 1,oI 1,oI 0,oR b17,oI 0,oR b6,oI 1] [] rfl ?_
  refine own_ret X43 (v:=none) (fun _=>rfl) Bs (fun fs hr=>X43.returnOut hx Br (hb hby d6_66) hr) ?_ (by decide) (by decide)
  unfold Q6a5
  rw [eK43]
  exact ⟨b43a,k43b,b43c,rfl,N43,KK43,n_b43a,sz_b43a,n_b43c,sz_b43c,ne43_0,(V20s.keep K43 (ninS ne_b17_b6 nin0)),g43_0,g43_1,g43_2,g43_3,g43_4,g43_5,g43_6⟩
def own_t12:Nat→Option (Instr × Nat):=tB 0 (tP 0 (.aload_n 0)) (tQ 1 (.getfield 48) 3)
theorem own_ok12:∀ pc q,own_fetch 5 own_t12 pc = some q→decode jdk_38_method_8_code pc = .ok q:=own_tab (by decide +kernel)
theorem d12_4:decode jdk_38_method_8_code 4 = .ok (.ireturn,1):=by decide +kernel
def Q12a12 (Z:State)  (h0:Heap)(n0:Nat)(v:Option Value)(h:Heap)(L:List Loc):Prop:=v = some (vI 1)∧Fr n0 L∧h = h0
set_option maxRecDepth 65536 in
set_option maxHeartbeats 40000000 in
theorem rm12a12 (l:Launch)(Z:State)(a0:Array Value)(hw:HW a0 Z)(ws:List Jvm.Cond)(b6:Addr)(h0:Heap)(n0:Nat)(Z0:n0≤h0.size)(PF12:oF2 Z h0 b6 (vI 1)) :
    own_Met l mn10 jdk_38_method_8_code 1 (some .int) ws (oRm 0 0 0 0) #[vR b6] Z h0 (Q12a12 Z  h0 n0):=by
  refine own_met (own:="java/util/ArrayList") rfl (plainFor_of_name pn_6) ?_
  intro p e s m below meth c s₁ hx hby hml hZ hown hnm X0 e0 Br Bs
  have N0:=Fr.nil n0
  have tt:=own_tt hx hby own_ok12
  refine oV 0 #[oR b6] [] ?_
  refine oX2 a0 [b6] [0] [fE12_48 0 (vI 1)] [] [] [] 1 [oR 0] [] [] 4 [oR 0] [vI 1] [] tt hZ hown X0 N0 e0 (oA (ow58 hw) trivial) trivial (oA PF12 trivial) trivial (Or.inl rfl) trivial rfl rfl (by decide +kernel) 2 (by decide +kernel) fun T48 h48 _ X48 N48 e48 K48 q48 M48=>?_
  have e48:=e48.trans (q48 rfl)
  refine oV 4 #[oR b6] [vI 1] ?_
  refine own_ret X48 (v:=some (vI 1)) (oN Br) Bs (fun fs hr=>retI X48 hx Br (hb hby d12_4) hr) ?_ (by decide) (by decide)
  unfold Q12a12
  exact ⟨rfl,N48,e48⟩
theorem pd0:parseMethodDescriptor "()I" = some ⟨[],some .int⟩:=by decide +kernel
def own_t15:Nat→Option (Instr × Nat):=tB 4 (tB 0 (tP 0 (.iload_n 0)) (tB 1 (tQ 1 (.ifCond .lt 8) 3) (tP 4 (.iload_n 0)))) (tB 5 (tP 5 (.iload_n 1)) (tB 6 (tQ 6 (.if_icmp .lt 10) 3) (tP 16 (.iload_n 0))))
theorem own_ok15:∀ pc q,own_fetch 18 own_t15 pc = some q→decode jdk_41_method_11_code pc = .ok q:=own_tab (by decide +kernel)
theorem d15_17:decode jdk_41_method_11_code 17 = .ok (.ireturn,1):=by decide +kernel
theorem pn_8:plainName "jdk/internal/util/Preconditions" = true:=by first | (simp [plainName,overriddenIn]; done) | decide +kernel
def Q15a15 (Z:State)  (h0:Heap)(n0:Nat)(v:Option Value)(h:Heap)(L:List Loc):Prop:=v = some (vI 0)∧Fr n0 L∧h = h0
set_option maxRecDepth 65536 in
set_option maxHeartbeats 40000000 in
theorem rm15a15 (l:Launch)(Z:State)(a0:Array Value)(hw:HW a0 Z)(ws:List Jvm.Cond)  (h0:Heap)(n0:Nat)(Z0:n0≤h0.size) :
    own_Met l mn12 jdk_41_method_11_code 3 (some .int) ws (oRm 0 0 0 0) #[vI 0,vI 1,.null] Z h0 (Q15a15 Z  h0 n0):=by
  refine own_met (own:="jdk/internal/util/Preconditions") rfl (plainFor_of_name pn_8) ?_
  intro p e s m below meth c s₁ hx hby hml hZ hown hnm X0 e0 Br Bs
  have N0:=Fr.nil n0
  have tt:=own_tt hx hby own_ok15
  refine oV 0 #[oI 0,oI 1,.val .null] [] ?_
  refine oG X0 tt 6 17 #[oI 0,oI 1,.val .null] [vI 0] rfl ?_
  refine own_ret X0 (v:=some (vI 0)) (oN Br) Bs (fun fs hr=>retI X0 hx Br (hb hby d15_17) hr) ?_ (by decide) (by decide)
  unfold Q15a15
  exact ⟨rfl,N0,e0⟩
theorem pd11:parseMethodDescriptor "(IILjava/util/function/BiFunction;)I" = some ⟨[.int,.int,(.object "java/util/function/BiFunction")],some .int⟩:=by decide +kernel
def own_t14:Nat→Option (Instr × Nat):=tB 0 (tP 0 (.iload_n 0)) (tB 1 (tP 1 (.iload_n 1)) (tP 2 .aconst_null))
theorem own_ok14:∀ pc q,own_fetch 7 own_t14 pc = some q→decode jdk_31_method_17_code pc = .ok q:=own_tab (by decide +kernel)
theorem d14_3:decode jdk_31_method_17_code 3 = .ok (.invokestatic 105,3):=by decide +kernel
theorem d14_6:decode jdk_31_method_17_code 6 = .ok (.ireturn,1):=by decide +kernel
theorem pn_7:plainName "java/util/Objects" = true:=by first | (simp [plainName,overriddenIn]; done) | decide +kernel
def Q14a14 (Z:State)  (h0:Heap)(n0:Nat)(v:Option Value)(h:Heap)(L:List Loc):Prop:=v = some (vI 0)∧Fr n0 L∧h = h0
set_option maxRecDepth 65536 in
set_option maxHeartbeats 40000000 in
theorem rm14a14 (l:Launch)(Z:State)(a0:Array Value)(hw:HW a0 Z)(ws:List Jvm.Cond)  (h0:Heap)(n0:Nat)(Z0:n0≤h0.size) :
    own_Met l mn13 jdk_31_method_17_code 2 (some .int) ws (oRm 1 0 0 14) #[vI 0,vI 1] Z h0 (Q14a14 Z  h0 n0):=by
  refine own_met (own:="java/util/Objects") rfl (plainFor_of_name pn_7) ?_
  intro p e s m below meth c s₁ hx hby hml hZ hown hnm X0 e0 Br Bs
  have N0:=Fr.nil n0
  have tt:=own_tt hx hby own_ok14
  refine oV 0 #[oI 0,oI 1] [] ?_
  refine oG X0 tt 3 3 #[oI 0,oI 1] [.null,vI 1,vI 0] rfl ?_
  refine own_cS X0 hx hZ hown e0 (ow111 hw) (ow112 hw) (ow113 hw) (ow114 hw) (y:=mn12) (argsL:=[vI 0,vI 1,.null]) (rest:=[]) (W:=0) hml.symm (hb hby d14_3) (lenOf pd11 rfl) rfl (by decide) (rm15a15 l Z a0 hw []  h0 n0 Z0 ) fun _ T81 _ X81 hQ81=>?_
  obtain ⟨rfl,N81q,hh81⟩:=hQ81
  have N81:=Fr.app N0 N81q
  obtain ⟨_,X81,N81⟩:=own_hide X81 N81
  refine oV 6 #[oI 0,oI 1] [vI 0] ?_
  refine own_ret X81 (v:=some (vI 0)) (oN Br) Bs (fun fs hr=>retI X81 hx Br (hb hby d14_6) hr) ?_ (by decide) (by decide)
  unfold Q14a14
  exact ⟨rfl,N81,hh81⟩
def own_t16:Nat→Option (Instr × Nat):=tB 1 (tB 0 (tP 0 (.aload_n 0)) (tQ 1 (.getfield 9) 3)) (tB 4 (tP 4 (.iload_n 1)) (tP 5 .aaload))
theorem own_ok16:∀ pc q,own_fetch 7 own_t16 pc = some q→decode jdk_38_method_18_code pc = .ok q:=own_tab (by decide +kernel)
theorem d16_6:decode jdk_38_method_18_code 6 = .ok (.areturn,1):=by decide +kernel
def Q16a16 (Z:State)(b44c:Addr)(h0:Heap)(n0:Nat)(v:Option Value)(h:Heap)(L:List Loc):Prop:=v = some (vR b44c)∧Fr n0 L∧h = h0
set_option maxRecDepth 65536 in
set_option maxHeartbeats 40000000 in
theorem rm16a16 (l:Launch)(Z:State)(a0:Array Value)(hw:HW a0 Z)(ws:List Jvm.Cond)(b6 b44a:Addr)(k44b:ClassId)(b44c:Addr)(h0:Heap)(n0:Nat)(Z0:n0≤h0.size)(PF11:oF1 Z h0 b6 (vR b44a))(PV15:Arv Z h0 b44a k44b (.object oOb) 10 [vR b44c,.null,.null,.null,.null,.null,.null,.null,.null,.null] .null) :
    own_Met l mn14 jdk_38_method_18_code 2 (some (.object oOb)) ws (oRm 0 0 0 0) #[vR b6,vI 0] Z h0 (Q16a16 Z b44c h0 n0):=by
  refine own_met (own:="java/util/ArrayList") rfl (plainFor_of_name pn_6) ?_
  intro p e s m below meth c s₁ hx hby hml hZ hown hnm X0 e0 Br Bs
  have N0:=Fr.nil n0
  have tt:=own_tt hx hby own_ok16
  refine oV 0 #[oR b6,oI 0] [] ?_
  refine oX2 a0 [b44a,b44c,b6] [k44b,0,0] [fE16_9 2 (vR 0)] [] [] [0] 3 [oR 2,oI 0] [] [(0,(.object oOb),10,[vR 1,.null,.null,.null,.null,.null,.null,.null,.null,.null])] 6 [oR 2,oI 0] [vR 1] [] tt hZ hown X0 N0 e0 (oA (ow33 hw) trivial) trivial (oA PF11 trivial) (oA PV15 trivial) (Or.inl rfl) trivial rfl rfl (by decide +kernel) 4 (by decide +kernel) fun T83 h83 _ X83 N83 e83 K83 q83 M83=>?_
  have e83:=e83.trans (q83 rfl)
  refine oV 6 #[oR b6,oI 0] [vR b44c] ?_
  refine own_ret X83 (v:=some (vR b44c)) (oN Br) Bs (fun fs hr=>own_retA X83 hx Br rfl rfl (hb hby d16_6) hr) ?_ (by decide) (by decide)
  unfold Q16a16
  exact ⟨rfl,N83,e83⟩
theorem pd5:parseMethodDescriptor "(I)Ljava/lang/Object;" = some ⟨[.int],some (.object oOb)⟩:=by decide +kernel
def own_t13:Nat→Option (Instr × Nat):=tB 2 (tB 0 (tP 0 (.iload_n 1)) (tB 1 (tP 1 (.aload_n 0)) (tQ 2 (.getfield 48) 3))) (tB 8 (tP 8 .pop) (tB 9 (tP 9 (.aload_n 0)) (tP 10 (.iload_n 1))))
theorem own_ok13:∀ pc q,own_fetch 15 own_t13 pc = some q→decode jdk_38_method_20_code pc = .ok q:=own_tab (by decide +kernel)
theorem d13_5:decode jdk_38_method_20_code 5 = .ok (.invokestatic 118,3):=by decide +kernel
theorem d13_11:decode jdk_38_method_20_code 11 = .ok (.invokevirtual 123,3):=by decide +kernel
theorem d13_14:decode jdk_38_method_20_code 14 = .ok (.areturn,1):=by decide +kernel
def Q13a13 (Z:State)(b44c:Addr)(h0:Heap)(n0:Nat)(v:Option Value)(h:Heap)(L:List Loc):Prop:=v = some (vR b44c)∧Fr n0 L∧h = h0
set_option maxRecDepth 65536 in
set_option maxHeartbeats 40000000 in
theorem rm13a13 (l:Launch)(Z:State)(a0:Array Value)(hw:HW a0 Z)(ws:List Jvm.Cond)(b6 b44a:Addr)(k44b:ClassId)(b44c:Addr)(h0:Heap)(n0:Nat)(Z0:n0≤h0.size)(PE9:Exa Z h0 b6 "java/util/ArrayList")(PF11:oF1 Z h0 b6 (vR b44a))(PF12:oF2 Z h0 b6 (vI 1))(PV15:Arv Z h0 b44a k44b (.object oOb) 10 [vR b44c,.null,.null,.null,.null,.null,.null,.null,.null,.null] .null) :
    own_Met l mn15 jdk_38_method_20_code 2 (some (.object oOb)) ws (oRm 2 0 0 27) #[vR b6,vI 0] Z h0 (Q13a13 Z b44c h0 n0):=by
  refine own_met (own:="java/util/ArrayList") rfl (plainFor_of_name pn_6) ?_
  intro p e s m below meth c s₁ hx hby hml hZ hown hnm X0 e0 Br Bs
  have N0:=Fr.nil n0
  have tt:=own_tt hx hby own_ok13
  refine oV 0 #[oR b6,oI 0] [] ?_
  refine oX2 a0 [b6] [0] [fE13_48 0 (vI 1)] [] [] [] 1 [oR 0,oI 0] [] [] 5 [oR 0,oI 0] [vI 1,vI 0] [] tt hZ hown X0 N0 e0 (oA (ow58 hw) trivial) trivial (oA PF12 trivial) trivial (Or.inl rfl) trivial rfl rfl (by decide +kernel) 3 (by decide +kernel) fun T80 h80 _ X80 N80 e80 K80 q80 M80=>?_
  have e80:=e80.trans (q80 rfl)
  refine oV 5 #[oR b6,oI 0] [vI 1,vI 0] ?_
  refine own_cS X80 hx hZ hown e80 (ow107 hw) (ow108 hw) (ow109 hw) (ow110 hw) (y:=mn13) (argsL:=[vI 0,vI 1]) (rest:=[]) (W:=0) hml.symm (hb hby d13_5) (lenOf pd7 rfl) rfl (by decide) (rm14a14 l Z a0 hw []  h0 n0 Z0 ) fun _ T82 _ X82 hQ82=>?_
  obtain ⟨rfl,N82q,hh82⟩:=hQ82
  have N82:=Fr.app N80 N82q
  obtain ⟨_,X82,N82⟩:=own_hide X82 N82
  refine oV 8 #[oR b6,oI 0] [vI 0] ?_
  refine oG X82 tt 3 11 #[oR b6,oI 0] [vI 0,vR b6] rfl ?_
  refine own_cV X82 hx hZ hown hh82 (ow115 hw) (ow116 hw) (notFace_of_selects (args:=#[]) (mvT hZ (ow118 hw))) (ow118 hw) (ow117 hw) (ow13 hw) (ow119 hw) PE9 (y:=mn14) (z:=mn14) (argsL:=[vI 0]) (rest:=[]) (W:=0) hml.symm (hb hby d13_11) (lenOf pd5 rfl) rfl (by decide) (rm16a16 l Z a0 hw [] b6 b44a k44b b44c h0 n0 Z0 PF11 PV15) fun _ T84 _ X84 hQ84=>?_
  obtain ⟨rfl,N84q,hh84⟩:=hQ84
  have N84:=Fr.app N82 N84q
  obtain ⟨_,X84,N84⟩:=own_hide X84 N84
  refine oV 14 #[oR b6,oI 0] [vR b44c] ?_
  refine own_ret X84 (v:=some (vR b44c)) (oN Br) Bs (fun fs hr=>own_retA X84 hx Br rfl rfl (hb hby d13_14) hr) ?_ (by decide) (by decide)
  unfold Q13a13
  exact ⟨rfl,N84,hh84⟩
def own_t1:Nat→Option (Instr × Nat):=tB 215 (tB 96 (tB 37 (tB 20 (tB 10 (tB 5 (tB 0 (tP 0 (.aload_n 0)) (tB 4 (tP 4 (.iload_n 2)) (tP 5 (.iconst 1)))) (tB 6 (tP 6 .iadd) (tB 9 (tP 9 (.astore_n 3)) (tP 10 (.iconst 0))))) (tB 15 (tB 11 (tQ 11 (.istore 4) 2) (tB 13 (tQ 13 (.iload 4) 2) (tP 15 (.iload_n 2)))) (tB 16 (tQ 16 (.if_icmp .ge 39) 3) (tB 19 (tP 19 (.aload_n 3)) (tQ 20 (.iload 4) 2))))) (tB 28 (tB 24 (tB 22 (tP 22 (.iconst 1)) (tB 23 (tP 23 .iadd) (tP 24 (.aload_n 3)))) (tB 25 (tQ 25 (.iload 4) 2) (tB 27 (tP 27 .iaload) (tQ 28 (.bipush 64) 2)))) (tB 32 (tB 30 (tP 30 (.iload_n 2)) (tB 31 (tP 31 .idiv) (tP 32 .iadd))) (tB 33 (tQ 33 (.iload 4) 2) (tB 35 (tQ 35 (.bipush 64) 2) (tP 37 (.iload_n 2))))))) (tB 64 (tB 47 (tB 42 (tB 38 (tP 38 .irem) (tB 39 (tQ 39 (.if_icmp .ge 7) 3) (tP 42 (.iconst 1)))) (tB 43 (tQ 43 (.goto 4) 3) (tB 46 (tP 46 (.iconst 0)) (tP 47 .iadd)))) (tB 52 (tB 48 (tP 48 .iastore) (tB 49 (tQ 49 (.iinc 4 1) 3) (tQ 52 (.goto (-39)) 3))) (tB 58 (tP 58 .dup) (tB 62 (tQ 62 (.astore 4) 2) (tP 64 (.iload_n 2)))))) (tB 70 (tB 67 (tB 65 (tP 65 (.iload_n 2)) (tB 66 (tP 66 (.iload_n 1)) (tP 67 .isub))) (tB 68 (tP 68 (.iconst 0)) (tB 69 (tP 69 (.iload_n 2)) (tP 70 (.iload_n 1))))) (tB 75 (tB 71 (tP 71 .isub) (tB 74 (tP 74 (.iconst 0)) (tQ 75 (.aload 4) 2))) (tB 81 (tB 80 (tP 80 (.aload_n 0)) (tQ 81 (.aload 4) 2)) (tB 88 (tP 88 (.iload_n 2)) (tP 96 (.aload_n 0)))))))) (tB 176 (tB 145 (tB 126 (tB 112 (tB 97 (tQ 97 (.aload 4) 2) (tB 104 (tP 104 (.iload_n 2)) (tP 112 (.aload_n 0)))) (tB 113 (tQ 113 (.aload 4) 2) (tB 125 (tP 125 (.iconst 0)) (tQ 126 (.istore 5) 2)))) (tB 137 (tB 128 (tQ 128 (.iload 5) 2) (tB 130 (tQ 130 (.aload 4) 2) (tQ 137 (.if_icmp .ge 203) 3))) (tB 140 (tP 140 (.iload_n 2)) (tB 143 (tQ 143 (.astore 6) 2) (tQ 145 (.aload 4) 2))))) (tB 164 (tB 159 (tB 147 (tQ 147 (.iload 5) 2) (tB 157 (tQ 157 (.astore 7) 2) (tQ 159 (.aload 7) 2))) (tB 161 (tP 161 .arraylength) (tB 162 (tQ 162 (.istore 8) 2) (tP 164 (.iconst 0))))) (tB 169 (tB 165 (tQ 165 (.istore 9) 2) (tB 167 (tQ 167 (.iload 9) 2) (tQ 169 (.iload 8) 2))) (tB 171 (tQ 171 (.if_icmp .ge 22) 3) (tB 174 (tQ 174 (.aload 7) 2) (tQ 176 (.iload 9) 2)))))) (tB 199 (tB 186 (tB 181 (tB 178 (tP 178 .iaload) (tB 179 (tQ 179 (.istore 10) 2) (tQ 181 (.aload 6) 2))) (tB 183 (tQ 183 (.iload 10) 2) (tB 185 (tP 185 (.iconst 1)) (tP 186 .bastore)))) (tB 193 (tB 187 (tQ 187 (.iinc 9 1) 3) (tB 190 (tQ 190 (.goto (-23)) 3) (tP 193 (.iconst 0)))) (tB 194 (tQ 194 (.istore 7) 2) (tB 196 (tP 196 (.iconst 2)) (tP 199 .dup))))) (tB 205 (tB 202 (tB 200 (tP 200 (.iconst 0)) (tB 201 (tP 201 (.iconst 1)) (tP 202 .bastore))) (tB 203 (tP 203 .dup) (tB 204 (tP 204 (.iconst 1)) (tP 205 (.iconst 0))))) (tB 209 (tB 206 (tP 206 .bastore) (tB 207 (tQ 207 (.astore 8) 2) (tQ 209 (.aload 8) 2))) (tB 212 (tB 211 (tP 211 .arraylength) (tQ 212 (.istore 9) 2)) (tB 214 (tP 214 (.iconst 0)) (tQ 215 (.istore 10) 2)))))))) (tB 296 (tB 261 (tB 237 (tB 228 (tB 221 (tB 217 (tQ 217 (.iload 10) 2) (tB 219 (tQ 219 (.iload 9) 2) (tQ 221 (.if_icmp .ge 113) 3))) (tB 224 (tQ 224 (.aload 8) 2) (tB 226 (tQ 226 (.iload 10) 2) (tP 228 .baload)))) (tB 232 (tB 229 (tQ 229 (.istore 11) 2) (tB 231 (tP 231 (.iconst 0)) (tQ 232 (.istore 12) 2))) (tB 234 (tQ 234 (.iload 12) 2) (tB 236 (tP 236 (.iload_n 2)) (tQ 237 (.if_icmp .ge 91) 3))))) (tB 250 (tB 244 (tB 240 (tQ 240 (.aload 6) 2) (tB 242 (tQ 242 (.iload 12) 2) (tP 244 .baload))) (tB 245 (tQ 245 (.iload 11) 2) (tB 247 (tQ 247 (.if_icmp .ne 75) 3) (tP 250 (.aload_n 0))))) (tB 256 (tB 251 (tQ 251 (.getfield 26) 3) (tB 254 (tQ 254 (.iload 5) 2) (tP 256 .aaload))) (tB 257 (tQ 257 (.iload 7) 2) (tB 259 (tQ 259 (.bipush 64) 2) (tP 261 (.aload_n 3))))))) (tB 278 (tB 268 (tB 265 (tB 262 (tQ 262 (.iload 12) 2) (tB 264 (tP 264 (.iconst 1)) (tP 265 .iadd))) (tB 266 (tP 266 .iaload) (tB 267 (tP 267 .isub) (tP 268 .iastore)))) (tB 273 (tB 269 (tP 269 (.aload_n 0)) (tB 270 (tQ 270 (.getfield 29) 3) (tQ 273 (.iload 5) 2))) (tB 275 (tP 275 .aaload) (tB 276 (tQ 276 (.iload 7) 2) (tP 278 (.aload_n 3)))))) (tB 285 (tB 282 (tB 279 (tQ 279 (.iload 12) 2) (tB 281 (tP 281 (.iconst 1)) (tP 282 .iadd))) (tB 283 (tP 283 .iaload) (tB 284 (tP 284 (.aload_n 3)) (tQ 285 (.iload 12) 2)))) (tB 289 (tB 287 (tP 287 .iaload) (tB 288 (tP 288 .isub) (tP 289 .iastore))) (tB 291 (tB 290 (tP 290 (.aload_n 0)) (tQ 291 (.getfield 32) 3)) (tB 294 (tQ 294 (.iload 5) 2) (tP 296 .dup2))))))) (tB 355 (tB 317 (tB 307 (tB 300 (tB 297 (tP 297 .iaload) (tB 298 (tQ 298 (.iload 11) 2) (tQ 300 (.ifCond .eq 16) 3))) (tB 303 (tP 303 (.aload_n 0)) (tB 304 (tQ 304 (.getfield 29) 3) (tQ 307 (.iload 5) 2)))) (tB 312 (tB 309 (tP 309 .aaload) (tB 310 (tQ 310 (.iload 7) 2) (tP 312 .iaload))) (tB 313 (tQ 313 (.goto 4) 3) (tB 316 (tP 316 (.iconst 0)) (tP 317 .iadd))))) (tB 331 (tB 322 (tB 318 (tP 318 .iastore) (tB 319 (tQ 319 (.iinc 7 1) 3) (tQ 322 (.iinc 12 1) 3))) (tB 325 (tQ 325 (.goto (-91)) 3) (tB 328 (tQ 328 (.iinc 10 1) 3) (tQ 331 (.goto (-114)) 3)))) (tB 340 (tB 334 (tQ 334 (.iinc 5 1) 3) (tB 337 (tQ 337 (.goto (-209)) 3) (tP 340 (.aload_n 0)))) (tB 341 (tQ 341 (.aload 4) 2) (tB 354 (tP 354 (.iconst 0)) (tQ 355 (.istore 5) 2)))))) (tB 387 (tB 373 (tB 366 (tB 357 (tQ 357 (.iload 5) 2) (tB 359 (tQ 359 (.aload 4) 2) (tQ 366 (.if_icmp .ge 58) 3))) (tB 369 (tP 369 (.aload_n 0)) (tB 370 (tQ 370 (.getfield 43) 3) (tQ 373 (.iload 5) 2)))) (tB 381 (tB 375 (tQ 375 (.iload 5) 2) (tB 380 (tP 380 (.iconst 0)) (tQ 381 (.istore 6) 2))) (tB 383 (tQ 383 (.iload 6) 2) (tB 385 (tQ 385 (.iload 5) 2) (tQ 387 (.if_icmp .ge 31) 3))))) (tB 399 (tB 394 (tB 390 (tP 390 (.aload_n 0)) (tB 391 (tQ 391 (.getfield 43) 3) (tQ 394 (.iload 5) 2))) (tB 396 (tP 396 .aaload) (tB 397 (tQ 397 (.iload 6) 2) (tP 399 (.aload_n 0))))) (tB 403 (tB 400 (tQ 400 (.iload 5) 2) (tB 402 (tP 402 (.aload_n 0)) (tQ 403 (.iload 6) 2))) (tB 415 (tB 412 (tQ 412 (.iinc 6 1) 3) (tQ 415 (.goto (-32)) 3)) (tB 418 (tQ 418 (.iinc 5 1) 3) (tQ 421 (.goto (-64)) 3))))))))
theorem own_ok1:∀ pc q,own_fetch 425 own_t1 pc = some q→decode prog_28_method_1_code pc = .ok q:=own_tab (by decide +kernel)
theorem d1_1:decode prog_28_method_1_code 1 = .ok (.invokespecial 1,3):=by decide +kernel
theorem d1_7:decode prog_28_method_1_code 7 = .ok (.newarray .int,2):=by decide +kernel
theorem d1_55:decode prog_28_method_1_code 55 = .ok (.new 9,3):=by decide +kernel
theorem d1_59:decode prog_28_method_1_code 59 = .ok (.invokespecial 11,3):=by decide +kernel
theorem d1_72:decode prog_28_method_1_code 72 = .ok (.newarray .int,2):=by decide +kernel
theorem d1_77:decode prog_28_method_1_code 77 = .ok (.invokestatic 12,3):=by decide +kernel
theorem d1_83:decode prog_28_method_1_code 83 = .ok (.invokeinterface 18 1,5):=by decide +kernel
theorem d1_89:decode prog_28_method_1_code 89 = .ok (.multianewarray 24 2,4):=by decide +kernel
theorem d1_93:decode prog_28_method_1_code 93 = .ok (.putfield 26,3):=by decide +kernel
theorem d1_99:decode prog_28_method_1_code 99 = .ok (.invokeinterface 18 1,5):=by decide +kernel
theorem d1_105:decode prog_28_method_1_code 105 = .ok (.multianewarray 24 2,4):=by decide +kernel
theorem d1_109:decode prog_28_method_1_code 109 = .ok (.putfield 29,3):=by decide +kernel
theorem d1_115:decode prog_28_method_1_code 115 = .ok (.invokeinterface 18 1,5):=by decide +kernel
theorem d1_120:decode prog_28_method_1_code 120 = .ok (.newarray .int,2):=by decide +kernel
theorem d1_122:decode prog_28_method_1_code 122 = .ok (.putfield 32,3):=by decide +kernel
theorem d1_132:decode prog_28_method_1_code 132 = .ok (.invokeinterface 18 1,5):=by decide +kernel
theorem d1_141:decode prog_28_method_1_code 141 = .ok (.newarray .boolean,2):=by decide +kernel
theorem d1_149:decode prog_28_method_1_code 149 = .ok (.invokeinterface 36 2,5):=by decide +kernel
theorem d1_154:decode prog_28_method_1_code 154 = .ok (.checkcast 40,3):=by decide +kernel
theorem d1_197:decode prog_28_method_1_code 197 = .ok (.newarray .boolean,2):=by decide +kernel
theorem d1_343:decode prog_28_method_1_code 343 = .ok (.invokeinterface 18 1,5):=by decide +kernel
theorem d1_348:decode prog_28_method_1_code 348 = .ok (.anewarray 41,3):=by decide +kernel
theorem d1_351:decode prog_28_method_1_code 351 = .ok (.putfield 43,3):=by decide +kernel
theorem d1_361:decode prog_28_method_1_code 361 = .ok (.invokeinterface 18 1,5):=by decide +kernel
theorem d1_377:decode prog_28_method_1_code 377 = .ok (.newarray .long,2):=by decide +kernel
theorem d1_379:decode prog_28_method_1_code 379 = .ok (.aastore,1):=by decide +kernel
theorem d1_424:decode prog_28_method_1_code 424 = .ok (.return_,1):=by decide +kernel
def Q1a1 (Z:State)(b1:Addr)(h0:Heap)(n0:Nat)(v:Option Value)(h:Heap)(L:List Loc):Prop:=∃ (b51:Addr)(k51:ClassId)(x51a:Addr)(kc51:ClassId)(b60:Addr)(k60:ClassId)(x60a:Addr)(kc60:ClassId),v = none∧Fr n0 L∧Keep h0 h [b1]∧n0≤b51∧h0.size≤b51∧n0≤x51a∧h0.size≤x51a∧n0≤b60∧h0.size≤b60∧n0≤x60a∧h0.size≤x60a∧x51a≠b51∧b60≠b51∧b60≠x51a∧x60a≠b51∧x60a≠x51a∧x60a≠b60∧oF3 Z h b1 (vR b51)∧oF4 Z h b1 (vR b60)∧Arv Z h b51 k51 (.array .int) 1 [vR x51a] .null∧OvrA Z k51 .int "[I"∧Exa Z h b51 "[[I"∧Arv Z h x51a kc51 .int 1 [vI 0] (vI 0)∧Exa Z h x51a "[I"∧Arv Z h b60 k60 (.array .int) 1 [vR x60a] .null∧OvrA Z k60 .int "[I"∧Exa Z h b60 "[[I"∧Arv Z h x60a kc60 .int 1 [vI 64] (vI 0)∧Exa Z h x60a "[I"
set_option maxRecDepth 65536 in
set_option maxHeartbeats 40000000 in
theorem rm1a1 (l:Launch)(Z:State)(a0:Array Value)(hw:HW a0 Z)(ws:List Jvm.Cond)(b1 wd:Addr)(kd:ClassId)(h0:Heap)(n0:Nat)(Z0:n0≤h0.size)(PS0:Sta Z h0 "java/util/ArrayList" "DEFAULTCAPACITY_EMPTY_ELEMENTDATA" "[Ljava/lang/Object;" (vR wd))(PV1:Arv Z h0 wd kd (.object oOb) 0 [] .null)(PE2:Exa Z h0 b1 oLy)(PF3:oF3 Z h0 b1 .null)(PF4:oF4 Z h0 b1 .null)(PF5:oF5 Z h0 b1 .null)(PF6:oF6 Z h0 b1 .null)(n_b1:n0≤b1) :
    own_Met l mn17 prog_28_method_1_code 13 none ws (oRm 7 14 26 105) #[vR b1,vI 0,vI 1] Z h0 (Q1a1 Z b1 h0 n0):=by
  refine own_met (own:=oLy) rfl (plainFor_of_name pn_0) ?_
  intro p e s m below meth c s₁ hx hby hml hZ hown hnm X0 e0 Br Bs
  have N0:=Fr.nil n0
  have tt:=own_tt hx hby own_ok1
  refine oV 0 #[oR b1,oI 0,oI 1,oU,oU,oU,oU,oU,oU,oU,oU,oU,oU] [] ?_
  refine oG X0 tt 1 1 #[oR b1,oI 0,oI 1,oU,oU,oU,oU,oU,oU,oU,oU,oU,oU] [vR b1] rfl ?_
  obtain ⟨T2,X2,e2,st2⟩:=initO X0 hx hZ hown (ow7 hw) (ow8 hw) (ow9 hw) e0 (g:=(mkF m 1 #[oR b1,oI 0,oI 1,oU,oU,oU,oU,oU,oU,oU,oU,oU,oU] [vR b1])) rfl hml.symm rfl (hb hby d1_1) (by decide) (W:=0) (oZ rfl) (by decide)
  refine oH st2 X2 tt 3 7 #[oR b1,oI 0,oI 1,oU,oU,oU,oU,oU,oU,oU,oU,oU,oU] [vI 2] rfl ?_
  obtain ⟨T3,h3,k3,X3,e3,E3,A3,EA3,st3⟩:=newPE (aty:=.int) X2 hx hZ (ow10 hw) e2 (g:=(mkF m 7 #[oR b1,oI 0,oI 1,oU,oU,oU,oU,oU,oU,oU,oU,oU,oU] [vI 2])) rfl (hb hby d1_7) rfl (by decide) (cap:=2) (by decide) (by decide) (by decide) (by decide) (ad:="[I") (by decide +kernel)
  obtain ⟨b3,g_b3⟩:∃ z,z = h0.size:=⟨_,rfl⟩
  have sg_b3:h0.size≤b3:=Nat.le_of_eq g_b3.symm
  rw [← g_b3] at A3 EA3 st3
  have n_b3:=oT Z0 sg_b3
  have sz_b3:=oT (Keep.refl h0 [b1]).1 sg_b3
  have K3:Keep h0 h3 [b1]:=(Keep.refl h0 [b1]).ext E3
  have V_b3:Arv Z h3 b3 k3 .int 2 [vI 0,vI 0] (vI 0):=(Arv.new A3 (by decide)).pad (pad_rep [] (vI 0) 2)
  refine oJ 9 #[oR b1,oI 0,oI 1,oU,oU,oU,oU,oU,oU,oU,oU,oU,oU] [vR b3] st3 ?_
  have l4:b1 < b3:=oW PE2.lt sz_b3
  refine oX2 a0 [b1,b3] [0,k3] [] [] [1] [1] 2 [oR 0,oI 0,oI 1,oU,oU,oU,oU,oU,oU,oU,oU,oU,oU] [vR 1] [(1,.int,2,[vI 0,vI 0])] 55 [oR 0,oI 0,oI 1,oR 1,oI 1,oU,oU,oU,oU,oU,oU,oU,oU] [] [(1,[vI 0,vI 64])] tt hZ hown X3 N0 e3 trivial trivial trivial (oA V_b3 trivial) (Or.inr (oA l4 trivial)) (oA n_b3 trivial) rfl rfl (by decide +kernel) 30 (by decide +kernel) fun T5 h5 _ X5 N5 e5 K5 q5 M5=>?_
  have Kq5:Keep h3 h5 [b3]:=K5
  have KK5:Keep h0 h5 [b1]:=Keep.trans K3 Kq5 (allS (Or.inr sz_b3) all0)
  obtain ⟨v5_0,-⟩:=M5
  have V5_0:Arv Z h5 b3 k3 .int 2 [vI 0,vI 64] (vI 0):=v5_0
  refine oV 55 #[oR b1,oI 0,oI 1,oR b3,oI 1,oU,oU,oU,oU,oU,oU,oU,oU] [] ?_
  obtain ⟨T6,h6,X6,e6,E6,A6,D6,-,st6⟩:=newO X5 hx hZ hown (ow11 hw) (ow12 hw) (ow13 hw) e5 (g:=(mkF m 55 #[oR b1,oI 0,oI 1,oR b3,oI 1,oU,oU,oU,oU,oU,oU,oU,oU] [])) rfl (hb hby d1_55) (by decide) (by decide)
  obtain ⟨b6,g_b6⟩:∃ z,z = h5.size:=⟨_,rfl⟩
  have sg_b6:h5.size≤b6:=Nat.le_of_eq g_b6.symm
  rw [← g_b6] at A6 D6 st6
  have n_b6:=oT (oT (oT Z0 E3.1) Kq5.1) sg_b6
  have sz_b6:=oT KK5.1 sg_b6
  have u7:=(oW V_b3.lt Kq5.1)
  have m8:h0.size≤h5.size:=(oT (oT (Nat.le_refl _) E3.1) Kq5.1)
  have K6:Keep h0 h6 [b1]:=KK5.ext E6
  have F_modCount_b6:oF0 Z h6 b6 (vI 0):=D6 (Or.inl (ow31 hw)) (ty:=.int) (by decide)
  have F_elementData_b6:oF1 Z h6 b6 .null:=D6 (Or.inl (ow34 hw)) (ty:=(.array (.object oOb))) (by decide)
  have F_size_b6:oF2 Z h6 b6 (vI 0):=D6 (Or.inl (ow59 hw)) (ty:=.int) (by decide)
  refine oH st6 X6 tt 1 59 #[oR b1,oI 0,oI 1,oR b3,oI 1,oU,oU,oU,oU,oU,oU,oU,oU] [vR b6,vR b6] rfl ?_
  have G16:=((own_sta_keep (PS0.ext E3) Kq5 (own_wsV V_b3 own_ws0)).ext E6)
  refine own_cN X6 hx hZ hown e6 rfl (ow14 hw) (ow15 hw) (ow13 hw) (ow16 hw) (y:=mn2) (b:=b6) (argsL:=[]) (rest:=[vR b6]) (W:=1) hml.symm (hb hby d1_59) (lenOf pd2 rfl) rfl (by decide) (rm3a2 l Z a0 hw [] b6 wd h6 n0 (oT (oT (oT Z0 E3.1) Kq5.1) E6.1) G16 A6 F_modCount_b6 F_elementData_b6 F_size_b6 n_b6) fun _ T15 _ X15 hQ15=>?_
  obtain ⟨rfl,N15q,K15,g15_0,g15_1,g15_2⟩:=hQ15
  have N15:=Fr.app N5 N15q
  have eK15:T15.heap = T15.heap:=rfl
  have KK15:Keep h0 T15.heap [b1]:=Keep.trans K6 K15 (allS (Or.inr sz_b6) all0)
  obtain ⟨_,X15,N15⟩:=own_hide X15 N15
  refine oV 62 #[oR b1,oI 0,oI 1,oR b3,oI 1,oU,oU,oU,oU,oU,oU,oU,oU] [vR b6] ?_
  refine oG X15 tt 9 72 #[oR b1,oI 0,oI 1,oR b3,oR b6,oU,oU,oU,oU,oU,oU,oU,oU] [vI 1,vI 0,vI 1,vI 1] rfl ?_
  obtain ⟨T17,h17,k17,X17,e17,E17,A17,EA17,st17⟩:=newPE (aty:=.int) X15 hx hZ (ow10 hw) eK15 (g:=(mkF m 72 #[oR b1,oI 0,oI 1,oR b3,oR b6,oU,oU,oU,oU,oU,oU,oU,oU] [vI 1,vI 0,vI 1,vI 1])) rfl (hb hby d1_72) rfl (by decide) (cap:=1) (by decide) (by decide) (by decide) (by decide) (ad:="[I") (by decide +kernel)
  obtain ⟨b17,g_b17⟩:∃ z,z = T15.heap.size:=⟨_,rfl⟩
  have sg_b17:T15.heap.size≤b17:=Nat.le_of_eq g_b17.symm
  rw [← g_b17] at A17 EA17 st17
  have n_b17:=oT (oT (oT (oT (oT Z0 E3.1) Kq5.1) E6.1) K15.1) sg_b17
  have sz_b17:=oT KK15.1 sg_b17
  have u18:=(oW A6.lt K15.1)
  have m19:h5.size≤T15.heap.size:=(oT (oT (Nat.le_refl _) E6.1) K15.1)
  have K17:Keep h0 h17 [b1]:=KK15.ext E17
  have V_b17:Arv Z h17 b17 k17 .int 1 [vI 0] (vI 0):=(Arv.new A17 (by decide)).pad (pad_rep [] (vI 0) 1)
  refine oH st17 X17 tt 2 77 #[oR b1,oI 0,oI 1,oR b3,oR b6,oU,oU,oU,oU,oU,oU,oU,oU] [vR b6,vI 0,vR b17,vI 0,vI 1,vI 1] rfl ?_
  have G45:=(((((PV1.ext E3).keep Kq5 (ninS (oL PV1.lt sz_b3) nin0)).ext E6).keep K15 (ninS (oL PV1.lt sz_b6) nin0)).ext E17)
  refine own_cS X17 hx hZ hown e17 (ow35 hw) (ow36 hw) (ow3 hw) (ow37 hw) (y:=mn9) (argsL:=[vI 1,vI 1,vI 0,vR b17,vI 0,vR b6]) (rest:=[]) (W:=0) hml.symm (hb hby d1_77) (lenOf pd9 rfl) rfl (by decide) (rm6a5 l Z a0 hw [] b17 b6 wd kd k17 h17 n0 (oT (oT (oT (oT (oT Z0 E3.1) Kq5.1) E6.1) K15.1) E17.1) ((own_sta_keep G16 K15 (own_wsE A6 own_ws0)).ext E17) G45 ((A6.keep K15).ext E17) (g15_0.ext E17) (g15_1.ext E17) (g15_2.ext E17) V_b17 EA17 (oL PV1.lt sz_b6) (oL PV1.lt sz_b17) (oL u18 sg_b17) (oM u18 sg_b17) n_b17 n_b6) fun _ T44 _ X44 hQ44=>?_
  obtain ⟨b44a,k44b,b44c,rfl,N44q,K44,n_b44a,sg_b44a,n_b44c,sg_b44c,ne44_0,g44_0,g44_1,g44_2,g44_3,g44_4,g44_5,g44_6,g44_7⟩:=hQ44
  have N44:=Fr.app N15 N44q
  have sz_b44a:=oT K17.1 sg_b44a
  have sz_b44c:=oT K17.1 sg_b44c
  have u46:b17 < h17.size:=V_b17.lt
  have m47:T15.heap.size≤h17.size:=(oT (Nat.le_refl _) E17.1)
  have eK44:T44.heap = T44.heap:=rfl
  have KK44:Keep h0 T44.heap [b1]:=Keep.trans K17 K44 (allS (Or.inr sz_b17) (allS (Or.inr sz_b6) all0))
  obtain ⟨_,X44,N44⟩:=own_hide X44 N44
  refine oV 80 #[oR b1,oI 0,oI 1,oR b3,oR b6,oU,oU,oU,oU,oU,oU,oU,oU] [] ?_
  refine oG X44 tt 2 83 #[oR b1,oI 0,oI 1,oR b3,oR b6,oU,oU,oU,oU,oU,oU,oU,oU] [vR b6,vR b1] rfl ?_
  have Zs50:n0≤T44.heap.size:=(oT (oT (oT (oT (oT (oT Z0 E3.1) Kq5.1) E6.1) K15.1) E17.1) K44.1)
  refine own_cI X44 hx hZ hown eK44 (ow82 hw) (ow83 hw) (mvT hZ (ow84 hw)) (ow85 hw) (ow86 hw) (ow87 hw) (ow88 hw) (ow54 hw) (ow13 hw) (ow89 hw) (((A6.keep K15).ext E17).keep K44) (y:=mn11) (z:=mn10) (argsL:=[]) (rest:=[vR b1]) (W:=1) hml.symm (hb hby d1_83) (lenOf pd0 rfl) rfl (by decide) (rm12a12 l Z a0 hw [] b6 T44.heap n0 Zs50 g44_3) fun _ T49 _ X49 hQ49=>?_
  obtain ⟨rfl,N49q,hh49⟩:=hQ49
  have N49:=Fr.app N44 N49q
  obtain ⟨_,X49,N49⟩:=own_hide X49 N49
  refine oV 88 #[oR b1,oI 0,oI 1,oR b3,oR b6,oU,oU,oU,oU,oU,oU,oU,oU] [vI 1,vR b1] ?_
  refine oG X49 tt 1 89 #[oR b1,oI 0,oI 1,oR b3,oR b6,oU,oU,oU,oU,oU,oU,oU,oU] [vI 1,vI 1,vR b1] rfl ?_
  obtain ⟨T51,h51,k51,kc51,X51,e51,E51,A51,O51,EA51,I51,st51⟩:=gridM X49 hx hZ (C:="[I") (ad:="[[I") (ty:=.int) hown (by decide +kernel) (by decide +kernel) (ow90 hw) (ow91 hw) (ow10 hw) hh49 (g:=(mkF m 89 #[oR b1,oI 0,oI 1,oR b3,oR b6,oU,oU,oU,oU,oU,oU,oU,oU] [vI 1,vI 1,vR b1])) rfl (hb hby d1_89) rfl (by decide) (by decide) (N:=1) (by decide) rfl (cap:=1) (by decide) (by decide) (by decide) rfl rfl (by decide) (by decide)
  obtain ⟨b51,g_b51⟩:∃ z,z = T44.heap.size:=⟨_,rfl⟩
  obtain ⟨x51a,g_x51a⟩:∃ z,z = T44.heap.size + 1 + 0:=⟨_,rfl⟩
  have sg_b51:T44.heap.size≤b51:=by omega
  have n_b51:=oT Zs50 sg_b51
  have sz_b51:=oT KK44.1 sg_b51
  have sg_x51a:T44.heap.size≤x51a:=by omega
  have n_x51a:=oT Zs50 sg_x51a
  have sz_x51a:=oT KK44.1 sg_x51a
  have u52:b44a < T44.heap.size:=g44_4.lt
  have u53:b44c < T44.heap.size:=g44_6.lt
  have m54:h17.size≤T44.heap.size:=(oT (Nat.le_refl _) K44.1)
  have nn_x51a_b51:x51a≠b51:=by omega
  have K51:Keep h0 h51 [b1]:=KK44.ext E51
  have V_b51:Arv Z h51 b51 k51 (.array .int) 1 [vR x51a] .null:=by rw [g_b51,g_x51a]; exact A51
  have EE_b51:Exa Z h51 b51 "[[I":=by rw [g_b51]; exact EA51
  have V_x51a:Arv Z h51 x51a kc51 .int 1 [vI 0] (vI 0):=by rw [g_x51a]; exact (Arv.new (I51 0 _ rfl).1 (by decide)).pad (pad_rep [] (vI 0) 1)
  have EE_x51a:Exa Z h51 x51a "[I":=by rw [g_x51a]; exact (I51 0 _ rfl).2
  rw [← g_b51] at st51
  refine oJ 93 #[oR b1,oI 0,oI 1,oR b3,oR b6,oU,oU,oU,oU,oU,oU,oU,oU] [vR b51,vR b1] st51 ?_
  have G55:=(((((((PE2.ext E3).keep Kq5).ext E6).keep K15).ext E17).keep K44).ext E51)
  have K56:Keep _ h51 [b3,b6,b17]:=(Keep.trans ((Keep.trans ((Keep.trans ((Keep.refl _ _).ext E3) Kq5 (allS oI0 all0)).ext E6) K15 (allS oI1 all0)).ext E17) K44 (allS oI2 (allS oI1 all0))).ext E51
  have G57:=(PF3.keep K56 (ninS (oL PE2.lt sz_b3) (ninS (oL PE2.lt sz_b6) (ninS (oL PE2.lt sz_b17) nin0))))
  obtain ⟨T58,h58,X58,e58,W58,st58⟩:=putF X51 hx hZ hown (host:="") (Or.inl (ow92 hw)) Via.refl e51 G57 G55 (Or.inr ⟨(ow93 hw),rfl,hnm⟩) (ow2 hw) (ty:=(.array (.array .int))) (by decide) rfl rfl (g:=(mkF m 93 #[oR b1,oI 0,oI 1,oR b3,oR b6,oU,oU,oU,oU,oU,oU,oU,oU] [vR b51,vR b1])) rfl rfl (hb hby d1_93)
  have Fw58:=Fld.same W58 G57
  have K58:Keep h0 h58 [b1]:=K51.wr W58 oI0
  have N58:=Fr.snoc X58 N49 n_b1
  refine oH st58 X58 tt 2 99 #[oR b1,oI 0,oI 1,oR b3,oR b6,oU,oU,oU,oU,oU,oU,oU,oU] [vR b6,vR b1] rfl ?_
  refine own_cI X58 hx hZ hown e58 (ow82 hw) (ow83 hw) (mvT hZ (ow84 hw)) (ow85 hw) (ow86 hw) (ow87 hw) (ow88 hw) (ow54 hw) (ow13 hw) (ow89 hw) (((((A6.keep K15).ext E17).keep K44).ext E51).wr W58) (y:=mn11) (z:=mn10) (argsL:=[]) (rest:=[vR b1]) (W:=1) hml.symm (hb hby d1_99) (lenOf pd0 rfl) rfl (by decide) (rm12a12 l Z a0 hw [] b6 h58 n0 (oT (oT Zs50 E51.1) (Keep.of_wr W58).1) ((g44_3.ext E51).other W58 (Or.inl (oM PE2.lt sz_b6)))) fun _ T59 _ X59 hQ59=>?_
  obtain ⟨rfl,N59q,hh59⟩:=hQ59
  have N59:=Fr.app N58 N59q
  obtain ⟨_,X59,N59⟩:=own_hide X59 N59
  refine oV 104 #[oR b1,oI 0,oI 1,oR b3,oR b6,oU,oU,oU,oU,oU,oU,oU,oU] [vI 1,vR b1] ?_
  refine oG X59 tt 1 105 #[oR b1,oI 0,oI 1,oR b3,oR b6,oU,oU,oU,oU,oU,oU,oU,oU] [vI 1,vI 1,vR b1] rfl ?_
  obtain ⟨T60,h60,k60,kc60,X60,e60,E60,A60,O60,EA60,I60,st60⟩:=gridM X59 hx hZ (C:="[I") (ad:="[[I") (ty:=.int) hown (by decide +kernel) (by decide +kernel) (ow90 hw) (ow91 hw) (ow10 hw) hh59 (g:=(mkF m 105 #[oR b1,oI 0,oI 1,oR b3,oR b6,oU,oU,oU,oU,oU,oU,oU,oU] [vI 1,vI 1,vR b1])) rfl (hb hby d1_105) rfl (by decide) (by decide) (N:=1) (by decide) rfl (cap:=1) (by decide) (by decide) (by decide) rfl rfl (by decide) (by decide)
  obtain ⟨b60,g_b60⟩:∃ z,z = h58.size:=⟨_,rfl⟩
  obtain ⟨x60a,g_x60a⟩:∃ z,z = h58.size + 1 + 0:=⟨_,rfl⟩
  have sg_b60:h58.size≤b60:=by omega
  have n_b60:=oT (oT (oT Zs50 E51.1) (Keep.of_wr W58).1) sg_b60
  have sz_b60:=oT K58.1 sg_b60
  have sg_x60a:h58.size≤x60a:=by omega
  have n_x60a:=oT (oT (oT Zs50 E51.1) (Keep.of_wr W58).1) sg_x60a
  have sz_x60a:=oT K58.1 sg_x60a
  have u61:=(oW V_b51.lt (Keep.of_wr W58).1)
  have u62:=(oW V_x51a.lt (Keep.of_wr W58).1)
  have m63:T44.heap.size≤h58.size:=(oT (oT (Nat.le_refl _) E51.1) (Keep.of_wr W58).1)
  have nn_x60a_b60:x60a≠b60:=by omega
  have K60:Keep h0 h60 [b1]:=K58.ext E60
  have V_b60:Arv Z h60 b60 k60 (.array .int) 1 [vR x60a] .null:=by rw [g_b60,g_x60a]; exact A60
  have EE_b60:Exa Z h60 b60 "[[I":=by rw [g_b60]; exact EA60
  have V_x60a:Arv Z h60 x60a kc60 .int 1 [vI 0] (vI 0):=by rw [g_x60a]; exact (Arv.new (I60 0 _ rfl).1 (by decide)).pad (pad_rep [] (vI 0) 1)
  have EE_x60a:Exa Z h60 x60a "[I":=by rw [g_x60a]; exact (I60 0 _ rfl).2
  rw [← g_b60] at st60
  refine oJ 109 #[oR b1,oI 0,oI 1,oR b3,oR b6,oU,oU,oU,oU,oU,oU,oU,oU] [vR b60,vR b1] st60 ?_
  have G64:=(((PF4.keep K56 (ninS (oL PE2.lt sz_b3) (ninS (oL PE2.lt sz_b6) (ninS (oL PE2.lt sz_b17) nin0)))).other W58 (Or.inr (sn_95_93 hw))).ext E60)
  obtain ⟨T65,h65,X65,e65,W65,st65⟩:=putF X60 hx hZ hown (host:="") (Or.inl (ow94 hw)) Via.refl e60 G64 ((G55.wr W58).ext E60) (Or.inr ⟨(ow95 hw),rfl,hnm⟩) (ow2 hw) (ty:=(.array (.array .int))) (by decide) rfl rfl (g:=(mkF m 109 #[oR b1,oI 0,oI 1,oR b3,oR b6,oU,oU,oU,oU,oU,oU,oU,oU] [vR b60,vR b1])) rfl rfl (hb hby d1_109)
  have Fw65:=Fld.same W65 G64
  have K65:Keep h0 h65 [b1]:=K60.wr W65 oI0
  have N65:=Fr.snoc X65 N59 n_b1
  refine oH st65 X65 tt 2 115 #[oR b1,oI 0,oI 1,oR b3,oR b6,oU,oU,oU,oU,oU,oU,oU,oU] [vR b6,vR b1] rfl ?_
  have G67:=((((g44_3.ext E51).other W58 (Or.inl (oM PE2.lt sz_b6))).ext E60).other W65 (Or.inl (oM PE2.lt sz_b6)))
  have G68:=(((((((A6.keep K15).ext E17).keep K44).ext E51).wr W58).ext E60).wr W65)
  refine own_cI X65 hx hZ hown e65 (ow82 hw) (ow83 hw) (mvT hZ (ow84 hw)) (ow85 hw) (ow86 hw) (ow87 hw) (ow88 hw) (ow54 hw) (ow13 hw) (ow89 hw) G68 (y:=mn11) (z:=mn10) (argsL:=[]) (rest:=[vR b1]) (W:=1) hml.symm (hb hby d1_115) (lenOf pd0 rfl) rfl (by decide) (rm12a12 l Z a0 hw [] b6 h65 n0 (oT (oT (oT (oT Zs50 E51.1) (Keep.of_wr W58).1) E60.1) (Keep.of_wr W65).1) G67) fun _ T66 _ X66 hQ66=>?_
  obtain ⟨rfl,N66q,hh66⟩:=hQ66
  have N66:=Fr.app N65 N66q
  obtain ⟨_,X66,N66⟩:=own_hide X66 N66
  refine oV 120 #[oR b1,oI 0,oI 1,oR b3,oR b6,oU,oU,oU,oU,oU,oU,oU,oU] [vI 1,vR b1] ?_
  obtain ⟨T69,h69,k69,X69,e69,E69,A69,EA69,st69⟩:=newPE (aty:=.int) X66 hx hZ (ow10 hw) hh66 (g:=(mkF m 120 #[oR b1,oI 0,oI 1,oR b3,oR b6,oU,oU,oU,oU,oU,oU,oU,oU] [vI 1,vR b1])) rfl (hb hby d1_120) rfl (by decide) (cap:=1) (by decide) (by decide) (by decide) (by decide) (ad:="[I") (by decide +kernel)
  obtain ⟨b69,g_b69⟩:∃ z,z = h65.size:=⟨_,rfl⟩
  have sg_b69:h65.size≤b69:=Nat.le_of_eq g_b69.symm
  rw [← g_b69] at A69 EA69 st69
  have n_b69:=oT (oT (oT (oT (oT Zs50 E51.1) (Keep.of_wr W58).1) E60.1) (Keep.of_wr W65).1) sg_b69
  have sz_b69:=oT K65.1 sg_b69
  have u70:=(oW V_b60.lt (Keep.of_wr W65).1)
  have u71:=(oW V_x60a.lt (Keep.of_wr W65).1)
  have m72:h58.size≤h65.size:=(oT (oT (Nat.le_refl _) E60.1) (Keep.of_wr W65).1)
  have K69:Keep h0 h69 [b1]:=K65.ext E69
  have V_b69:Arv Z h69 b69 k69 .int 1 [vI 0] (vI 0):=(Arv.new A69 (by decide)).pad (pad_rep [] (vI 0) 1)
  refine oJ 122 #[oR b1,oI 0,oI 1,oR b3,oR b6,oU,oU,oU,oU,oU,oU,oU,oU] [vR b69,vR b1] st69 ?_
  have G73:=(((((PF5.keep K56 (ninS (oL PE2.lt sz_b3) (ninS (oL PE2.lt sz_b6) (ninS (oL PE2.lt sz_b17) nin0)))).other W58 (Or.inr (sn_97_93 hw))).ext E60).other W65 (Or.inr (sn_97_95 hw))).ext E69)
  obtain ⟨T74,h74,X74,e74,W74,st74⟩:=putF X69 hx hZ hown (host:="") (Or.inl (ow96 hw)) Via.refl e69 G73 ((((G55.wr W58).ext E60).wr W65).ext E69) (Or.inr ⟨(ow97 hw),rfl,hnm⟩) (ow2 hw) (ty:=(.array .int)) (by decide) rfl rfl (g:=(mkF m 122 #[oR b1,oI 0,oI 1,oR b3,oR b6,oU,oU,oU,oU,oU,oU,oU,oU] [vR b69,vR b1])) rfl rfl (hb hby d1_122)
  have Fw74:=Fld.same W74 G73
  have K74:Keep h0 h74 [b1]:=K69.wr W74 oI0
  have N74:=Fr.snoc X74 N66 n_b1
  refine oH st74 X74 tt 4 132 #[oR b1,oI 0,oI 1,oR b3,oR b6,oI 0,oU,oU,oU,oU,oU,oU,oU] [vR b6,vI 0] rfl ?_
  have Zs76:n0≤h74.size:=(oT (oT (oT (oT (oT (oT Zs50 E51.1) (Keep.of_wr W58).1) E60.1) (Keep.of_wr W65).1) E69.1) (Keep.of_wr W74).1)
  refine own_cI X74 hx hZ hown e74 (ow82 hw) (ow83 hw) (mvT hZ (ow84 hw)) (ow85 hw) (ow86 hw) (ow87 hw) (ow88 hw) (ow54 hw) (ow13 hw) (ow89 hw) ((G68.ext E69).wr W74) (y:=mn11) (z:=mn10) (argsL:=[]) (rest:=[vI 0]) (W:=1) hml.symm (hb hby d1_132) (lenOf pd0 rfl) rfl (by decide) (rm12a12 l Z a0 hw [] b6 h74 n0 Zs76 ((G67.ext E69).other W74 (Or.inl (oM PE2.lt sz_b6)))) fun _ T75 _ X75 hQ75=>?_
  obtain ⟨rfl,N75q,hh75⟩:=hQ75
  have N75:=Fr.app N74 N75q
  obtain ⟨_,X75,N75⟩:=own_hide X75 N75
  refine oV 137 #[oR b1,oI 0,oI 1,oR b3,oR b6,oI 0,oU,oU,oU,oU,oU,oU,oU] [vI 1,vI 0] ?_
  refine oG X75 tt 2 141 #[oR b1,oI 0,oI 1,oR b3,oR b6,oI 0,oU,oU,oU,oU,oU,oU,oU] [vI 1] rfl ?_
  obtain ⟨T77,h77,k77,X77,e77,E77,A77,EA77,st77⟩:=newPE (aty:=.boolean) X75 hx hZ (ow98 hw) hh75 (g:=(mkF m 141 #[oR b1,oI 0,oI 1,oR b3,oR b6,oI 0,oU,oU,oU,oU,oU,oU,oU] [vI 1])) rfl (hb hby d1_141) rfl (by decide) (cap:=1) (by decide) (by decide) (by decide) (by decide) (ad:="[Z") (by decide +kernel)
  obtain ⟨b77,g_b77⟩:∃ z,z = h74.size:=⟨_,rfl⟩
  have sg_b77:h74.size≤b77:=Nat.le_of_eq g_b77.symm
  rw [← g_b77] at A77 EA77 st77
  have n_b77:=oT Zs76 sg_b77
  have sz_b77:=oT K74.1 sg_b77
  have u78:=(oW V_b69.lt (Keep.of_wr W74).1)
  have m79:h65.size≤h74.size:=(oT (oT (Nat.le_refl _) E69.1) (Keep.of_wr W74).1)
  have K77:Keep h0 h77 [b1]:=K74.ext E77
  have V_b77:Arv Z h77 b77 k77 .boolean 1 [vI 0] (vI 0):=(Arv.new A77 (by decide)).pad (pad_rep [] (vI 0) 1)
  refine oH st77 X77 tt 3 149 #[oR b1,oI 0,oI 1,oR b3,oR b6,oI 0,oR b77,oU,oU,oU,oU,oU,oU] [vI 0,vR b6] rfl ?_
  have K86:Keep _ h77 [b1]:=((((((Keep.refl _ _).wr W58 oI0).ext E60).wr W65 oI0).ext E69).wr W74 oI0).ext E77
  have G87:=(((G67.ext E69).other W74 (Or.inl (oM PE2.lt sz_b6))).ext E77)
  refine own_cI X77 hx hZ hown e77 (ow99 hw) (ow100 hw) (mvT hZ (ow101 hw)) (ow102 hw) (ow103 hw) (ow104 hw) (ow105 hw) (ow54 hw) (ow13 hw) (ow106 hw) (((G68.ext E69).wr W74).ext E77) (y:=mn16) (z:=mn15) (argsL:=[vI 0]) (rest:=[]) (W:=0) hml.symm (hb hby d1_149) (lenOf pd5 rfl) rfl (by decide) (rm13a13 l Z a0 hw [] b6 b44a k44b b44c h77 n0 (oT Zs76 E77.1) (((G68.ext E69).wr W74).ext E77) ((g44_2.ext E51).keep K86 (ninS (oM PE2.lt sz_b6) nin0)) G87 ((g44_4.ext E51).keep K86 (ninS (oM PE2.lt sz_b44a) nin0))) fun _ T85 _ X85 hQ85=>?_
  obtain ⟨rfl,N85q,hh85⟩:=hQ85
  have N85:=Fr.app N75 N85q
  obtain ⟨_,X85,N85⟩:=own_hide X85 N85
  refine oV 154 #[oR b1,oI 0,oI 1,oR b3,oR b6,oI 0,oR b77,oU,oU,oU,oU,oU,oU] [vR b44c] ?_
  have G88:=(((((((g44_7.ext E51).wr W58).ext E60).wr W65).ext E69).wr W74).ext E77)
  obtain ⟨T89,X89,e89,st89⟩:=castY X85 hx hZ hown (ow45 hw) hh85 (Ins.self G88) (g:=(mkF m 154 #[oR b1,oI 0,oI 1,oR b3,oR b6,oI 0,oR b77,oU,oU,oU,oU,oU,oU] [vR b44c])) rfl rfl (hb hby d1_154)
  refine oJ 157 #[oR b1,oI 0,oI 1,oR b3,oR b6,oI 0,oR b77,oU,oU,oU,oU,oU,oU] [vR b44c] st89 ?_
  have l90:b3 < b6:=oW u7 sg_b6
  have l91:b6 < b44c:=oW u18 (oT m47 sg_b44c)
  have c93:=oT m63 m72
  have c92:=oT c93 m79
  have l94:b44c < b77:=oW u53 (oT c92 sg_b77)
  refine oX2 a0 [b1,b3,b6,b44c,b77] [0,0,0,k17,k77] [] [] [4] [3,4] 5 [oR 0,oI 0,oI 1,oR 1,oR 2,oI 0,oR 4,oU,oU,oU,oU,oU,oU] [vR 3] [(3,.int,1,[vI 0]),(4,.boolean,1,[vI 0])] 197 [oR 0,oI 0,oI 1,oR 1,oR 2,oI 0,oR 4,oI 0,oI 1,oI 1,oI 0,oU,oU] [vI 2] [(4,[vI 1])] tt hZ hown X89 N85 e89 trivial trivial trivial (oA ((g44_6.ext E51).keep K86 (ninS (oM PE2.lt sz_b44c) nin0)) (oA V_b77 trivial)) (Or.inr (oA l4 (oA l90 (oA l91 (oA l94 trivial))))) (oA n_b77 trivial) rfl rfl (by decide +kernel) 25 (by decide +kernel) fun T95 h95 _ X95 N95 e95 K95 q95 M95=>?_
  have Kq95:Keep h77 h95 [b77]:=K95
  have KK95:Keep h0 h95 [b1]:=Keep.trans K77 Kq95 (allS (Or.inr sz_b77) all0)
  obtain ⟨-,v95_1,-⟩:=M95
  have V95_1:Arv Z h95 b77 k77 .boolean 1 [vI 1] (vI 0):=v95_1
  refine oV 197 #[oR b1,oI 0,oI 1,oR b3,oR b6,oI 0,oR b77,oI 0,oI 1,oI 1,oI 0,oU,oU] [vI 2] ?_
  obtain ⟨T96,h96,k96,X96,e96,E96,A96,EA96,st96⟩:=newPE (aty:=.boolean) X95 hx hZ (ow98 hw) e95 (g:=(mkF m 197 #[oR b1,oI 0,oI 1,oR b3,oR b6,oI 0,oR b77,oI 0,oI 1,oI 1,oI 0,oU,oU] [vI 2])) rfl (hb hby d1_197) rfl (by decide) (cap:=2) (by decide) (by decide) (by decide) (by decide) (ad:="[Z") (by decide +kernel)
  obtain ⟨b96,g_b96⟩:∃ z,z = h95.size:=⟨_,rfl⟩
  have sg_b96:h95.size≤b96:=Nat.le_of_eq g_b96.symm
  rw [← g_b96] at A96 EA96 st96
  have n_b96:=oT (oT (oT Zs76 E77.1) Kq95.1) sg_b96
  have sz_b96:=oT KK95.1 sg_b96
  have u97:=(oW V_b77.lt Kq95.1)
  have m98:h74.size≤h95.size:=(oT (oT (Nat.le_refl _) E77.1) Kq95.1)
  have K96:Keep h0 h96 [b1]:=KK95.ext E96
  have V_b96:Arv Z h96 b96 k96 .boolean 2 [vI 0,vI 0] (vI 0):=(Arv.new A96 (by decide)).pad (pad_rep [] (vI 0) 2)
  refine oJ 199 #[oR b1,oI 0,oI 1,oR b3,oR b6,oI 0,oR b77,oI 0,oI 1,oI 1,oI 0,oU,oU] [vR b96] st96 ?_
  have c99:=oT m72 m79
  have q9:=oL u61 (oT c99 sg_b77)
  have G10:=(((V_b51.keep K86 (ninS (oM PE2.lt sz_b51) nin0)).keep Kq95 (ninS q9 nin0)).ext E96)
  have q11:=oL u7 (oT m19 sg_b17)
  have c12:=oT m19 m47
  have c13:=oT c12 m54
  have c14:=oT c13 m63
  have c20:=oT c14 m72
  have c21:=oT c20 m79
  have q22:=oL u7 (oT c21 sg_b77)
  have G23:=((((((((V5_0.ext E6).keep K15 (ninS (oL u7 sg_b6) nin0)).ext E17).keep K44 (ninS q11 (ninS (oL u7 sg_b6) nin0))).ext E51).keep K86 (ninS (oM PE2.lt sz_b3) nin0)).keep Kq95 (ninS q22 nin0)).ext E96)
  have q24:=oL u62 (oT c99 sg_b77)
  have G25:=(((V_x51a.keep K86 (ninS (oM PE2.lt sz_x51a) nin0)).keep Kq95 (ninS q24 nin0)).ext E96)
  have q26:=oL u70 (oT m79 sg_b77)
  have G27:=((((((V_b60.other W65 (oM PE2.lt sz_b60)).ext E69).other W74 (oM PE2.lt sz_b60)).ext E77).keep Kq95 (ninS q26 nin0)).ext E96)
  have q28:=oL u71 (oT m79 sg_b77)
  have G29:=((((((V_x60a.other W65 (oM PE2.lt sz_x60a)).ext E69).other W74 (oM PE2.lt sz_x60a)).ext E77).keep Kq95 (ninS q28 nin0)).ext E96)
  have G30:=((((V_b69.other W74 (oM PE2.lt sz_b69)).ext E77).keep Kq95 (ninS (oL u78 sg_b77) nin0)).ext E96)
  have G31:=(((((((Fw58.ext E60).other W65 (Or.inr (sn_93_95 hw))).ext E69).other W74 (Or.inr (sn_93_97 hw))).ext E77).keep Kq95 (ninS (oL PE2.lt sz_b77) nin0)).ext E96)
  have G32:=(((((Fw65.ext E69).other W74 (Or.inr (sn_95_97 hw))).ext E77).keep Kq95 (ninS (oL PE2.lt sz_b77) nin0)).ext E96)
  have G33:=(((Fw74.ext E77).keep Kq95 (ninS (oL PE2.lt sz_b77) nin0)).ext E96)
  have c34:=oT m47 m54
  have l35:b6 < b51:=oW u18 (oT c34 sg_b51)
  have l36:b51 < x51a:=by omega
  have l37:x51a < b60:=oW u62 sg_b60
  have l38:b60 < x60a:=by omega
  have l39:x60a < b69:=oW u71 sg_b69
  have l40:b69 < b77:=oW u78 sg_b77
  have l41:b77 < b96:=oW u97 sg_b96
  refine oX2 a0 [b1,b3,b6,b51,x51a,b60,x60a,b69,b77,b96] [0,k3,0,k51,kc51,k60,kc60,k69,k77,k96] [fE1_26 0 (vR 3),fE1_29 0 (vR 5),fE1_32 0 (vR 7)] [] [9,4,6,7] [9,8,3,1,4,5,6,7] 10 [oR 0,oI 0,oI 1,oR 1,oR 2,oI 0,oR 8,oI 0,oI 1,oI 1,oI 0,oU,oU] [vR 9] [(9,.boolean,2,[vI 0,vI 0]),(8,.boolean,1,[vI 1]),(3,(.array .int),1,[vR 4]),(1,.int,2,[vI 0,vI 64]),(4,.int,1,[vI 0]),(5,(.array .int),1,[vR 6]),(6,.int,1,[vI 0]),(7,.int,1,[vI 0])] 132 [oR 0,oI 0,oI 1,oR 1,oR 2,oI 1,oR 8,oI 1,oR 9,oI 2,oI 2,oI 0,oI 1] [vR 2,vI 1] [(9,[vI 1,vI 0]),(4,[vI 0]),(6,[vI 64]),(7,[vI 64])] tt hZ hown X96 N95 e96 (oA (ow92 hw) (oA (ow94 hw) (oA (ow96 hw) trivial))) trivial (oA G31 (oA G32 (oA G33 trivial))) (oA V_b96 (oA (V95_1.ext E96) (oA G10 (oA G23 (oA G25 (oA G27 (oA G29 (oA G30 trivial)))))))) (Or.inr (oA l4 (oA l90 (oA l35 (oA l36 (oA l37 (oA l38 (oA l39 (oA l40 (oA l41 trivial)))))))))) (oA n_b96 (oA n_x51a (oA n_x60a (oA n_b69 trivial)))) rfl rfl (by decide +kernel) 114 (by decide +kernel) fun T42 h42 _ X42 N42 e42 K42 q42 M42=>?_
  have Kq42:Keep h96 h42 [b96,x51a,x60a,b69]:=K42
  have KK42:Keep h0 h42 [b1]:=Keep.trans K96 Kq42 (allS (Or.inr sz_b96) (allS (Or.inr sz_x51a) (allS (Or.inr sz_x60a) (allS (Or.inr sz_b69) all0))))
  obtain ⟨v42_0,-,-,-,v42_4,-,v42_6,v42_7,-⟩:=M42
  have V42_0:Arv Z h42 b96 k96 .boolean 2 [vI 1,vI 0] (vI 0):=v42_0
  have V42_4:Arv Z h42 x51a kc51 .int 1 [vI 0] (vI 0):=v42_4
  have V42_6:Arv Z h42 x60a kc60 .int 1 [vI 64] (vI 0):=v42_6
  have V42_7:Arv Z h42 b69 k69 .int 1 [vI 64] (vI 0):=v42_7
  refine oV 132 #[oR b1,oI 0,oI 1,oR b3,oR b6,oI 1,oR b77,oI 1,oR b96,oI 2,oI 2,oI 0,oI 1] [vR b6,vI 1] ?_
  have c43:=oT c34 m63
  have c48:=oT c43 m72
  have c80:=oT c48 m79
  have q81:=oL u18 (oT c80 sg_b77)
  have q82:=oL u18 (oT c48 sg_b69)
  have q83:=oL u18 (oT c43 sg_x60a)
  have q84:=oL u18 (oT c34 sg_x51a)
  have c100:=oT c80 m98
  have q101:=oL u18 (oT c100 sg_b96)
  have G102:=(((G87.keep Kq95 (ninS q81 nin0)).ext E96).keep Kq42 (ninS q101 (ninS q84 (ninS q83 (ninS q82 nin0)))))
  have G103:=((((((G68.ext E69).wr W74).ext E77).keep Kq95).ext E96).keep Kq42)
  refine own_cI X42 hx hZ hown e42 (ow82 hw) (ow83 hw) (mvT hZ (ow84 hw)) (ow85 hw) (ow86 hw) (ow87 hw) (ow88 hw) (ow54 hw) (ow13 hw) (ow89 hw) G103 (y:=mn11) (z:=mn10) (argsL:=[]) (rest:=[vI 1]) (W:=1) hml.symm (hb hby d1_132) (lenOf pd0 rfl) rfl (by decide) (rm12a12 l Z a0 hw [] b6 h42 n0 (oT (oT (oT (oT Zs76 E77.1) Kq95.1) E96.1) Kq42.1) G102) fun _ T104 _ X104 hQ104=>?_
  obtain ⟨rfl,N104q,hh104⟩:=hQ104
  have N104:=Fr.app N42 N104q
  obtain ⟨_,X104,N104⟩:=own_hide X104 N104
  refine oV 137 #[oR b1,oI 0,oI 1,oR b3,oR b6,oI 1,oR b77,oI 1,oR b96,oI 2,oI 2,oI 0,oI 1] [vI 1,vI 1] ?_
  refine oG X104 tt 3 343 #[oR b1,oI 0,oI 1,oR b3,oR b6,oI 1,oR b77,oI 1,oR b96,oI 2,oI 2,oI 0,oI 1] [vR b6,vR b1] rfl ?_
  refine own_cI X104 hx hZ hown hh104 (ow82 hw) (ow83 hw) (mvT hZ (ow84 hw)) (ow85 hw) (ow86 hw) (ow87 hw) (ow88 hw) (ow54 hw) (ow13 hw) (ow89 hw) G103 (y:=mn11) (z:=mn10) (argsL:=[]) (rest:=[vR b1]) (W:=1) hml.symm (hb hby d1_343) (lenOf pd0 rfl) rfl (by decide) (rm12a12 l Z a0 hw [] b6 h42 n0 (oT (oT (oT (oT Zs76 E77.1) Kq95.1) E96.1) Kq42.1) G102) fun _ T105 _ X105 hQ105=>?_
  obtain ⟨rfl,N105q,hh105⟩:=hQ105
  have N105:=Fr.app N104 N105q
  obtain ⟨_,X105,N105⟩:=own_hide X105 N105
  refine oV 348 #[oR b1,oI 0,oI 1,oR b3,oR b6,oI 1,oR b77,oI 1,oR b96,oI 2,oI 2,oI 0,oI 1] [vI 1,vR b1] ?_
  obtain ⟨T106,h106,k106,X106,e106,E106,A106,EA106,O106,st106⟩:=newRA X105 hx hZ (C:="[J") (ty:=.long) hown (by decide +kernel) (ow120 hw) (ow121 hw) hh105 (g:=(mkF m 348 #[oR b1,oI 0,oI 1,oR b3,oR b6,oI 1,oR b77,oI 1,oR b96,oI 2,oI 2,oI 0,oI 1] [vI 1,vR b1])) rfl (hb hby d1_348) rfl (by decide) (cap:=1) (by decide) (by decide) (by decide) (by decide) (ad:="[[J") (by decide +kernel)
  obtain ⟨b106,g_b106⟩:∃ z,z = h42.size:=⟨_,rfl⟩
  have sg_b106:h42.size≤b106:=Nat.le_of_eq g_b106.symm
  rw [← g_b106] at A106 EA106 st106
  have n_b106:=oT (oT (oT (oT (oT Zs76 E77.1) Kq95.1) E96.1) Kq42.1) sg_b106
  have sz_b106:=oT KK42.1 sg_b106
  have u107:=(oW V_b96.lt Kq42.1)
  have m108:h95.size≤h42.size:=(oT (oT (Nat.le_refl _) E96.1) Kq42.1)
  have K106:Keep h0 h106 [b1]:=KK42.ext E106
  have V_b106:Arv Z h106 b106 k106 (.array .long) 1 [.null] .null:=(Arv.new A106 (by decide)).pad (pad_rep [] .null 1)
  refine oJ 351 #[oR b1,oI 0,oI 1,oR b3,oR b6,oI 1,oR b77,oI 1,oR b96,oI 2,oI 2,oI 0,oI 1] [vR b106,vR b1] st106 ?_
  have G109:=(((((((((((PF6.keep K56 (ninS (oL PE2.lt sz_b3) (ninS (oL PE2.lt sz_b6) (ninS (oL PE2.lt sz_b17) nin0)))).other W58 (Or.inr (sn_123_93 hw))).ext E60).other W65 (Or.inr (sn_123_95 hw))).ext E69).other W74 (Or.inr (sn_123_97 hw))).ext E77).keep Kq95 (ninS (oL PE2.lt sz_b77) nin0)).ext E96).keep Kq42 (ninS (oL PE2.lt sz_b96) (ninS (oL PE2.lt sz_x51a) (ninS (oL PE2.lt sz_x60a) (ninS (oL PE2.lt sz_b69) nin0))))).ext E106)
  obtain ⟨T110,h110,X110,e110,W110,st110⟩:=putF X106 hx hZ hown (host:="") (Or.inl (ow122 hw)) Via.refl e106 G109 (((((G55.keep K86).keep Kq95).ext E96).keep Kq42).ext E106) (Or.inr ⟨(ow123 hw),rfl,hnm⟩) (ow2 hw) (ty:=(.array (.array .long))) (by decide) rfl rfl (g:=(mkF m 351 #[oR b1,oI 0,oI 1,oR b3,oR b6,oI 1,oR b77,oI 1,oR b96,oI 2,oI 2,oI 0,oI 1] [vR b106,vR b1])) rfl rfl (hb hby d1_351)
  have Fw110:=Fld.same W110 G109
  have K110:Keep h0 h110 [b1]:=K106.wr W110 oI0
  have N110:=Fr.snoc X110 N105 n_b1
  refine oH st110 X110 tt 4 361 #[oR b1,oI 0,oI 1,oR b3,oR b6,oI 0,oR b77,oI 1,oR b96,oI 2,oI 2,oI 0,oI 1] [vR b6,vI 0] rfl ?_
  have Zs111:n0≤h110.size:=(oT (oT (oT (oT (oT (oT Zs76 E77.1) Kq95.1) E96.1) Kq42.1) E106.1) (Keep.of_wr W110).1)
  refine own_cI X110 hx hZ hown e110 (ow82 hw) (ow83 hw) (mvT hZ (ow84 hw)) (ow85 hw) (ow86 hw) (ow87 hw) (ow88 hw) (ow54 hw) (ow13 hw) (ow89 hw) ((G103.ext E106).wr W110) (y:=mn11) (z:=mn10) (argsL:=[]) (rest:=[vI 0]) (W:=1) hml.symm (hb hby d1_361) (lenOf pd0 rfl) rfl (by decide) (rm12a12 l Z a0 hw [] b6 h110 n0 Zs111 ((G102.ext E106).other W110 (Or.inl (oM PE2.lt sz_b6)))) fun _ T112 _ X112 hQ112=>?_
  obtain ⟨rfl,N112q,hh112⟩:=hQ112
  have N112:=Fr.app N110 N112q
  obtain ⟨_,X112,N112⟩:=own_hide X112 N112
  refine oV 366 #[oR b1,oI 0,oI 1,oR b3,oR b6,oI 0,oR b77,oI 1,oR b96,oI 2,oI 2,oI 0,oI 1] [vI 1,vI 0] ?_
  refine oX2 a0 [b1,b106,b3,b6,b77,b96] [0,0,0,0,0,0] [fE1_43 0 (vR 1)] [] [] [] 6 [oR 0,oI 0,oI 1,oR 2,oR 3,oI 0,oR 4,oI 1,oR 5,oI 2,oI 2,oI 0,oI 1] [vI 1,vI 0] [] 377 [oR 0,oI 0,oI 1,oR 2,oR 3,oI 0,oR 4,oI 1,oR 5,oI 2,oI 2,oI 0,oI 1] [vI 0,vI 0,vR 1] [] tt hZ hown X112 N112 hh112 (oA (ow122 hw) trivial) trivial (oA Fw110 trivial) trivial (Or.inl rfl) trivial rfl rfl (by decide +kernel) 5 (by decide +kernel) fun T113 h113 _ X113 N113 e113 K113 q113 M113=>?_
  have e113:=e113.trans (q113 rfl)
  refine oV 377 #[oR b1,oI 0,oI 1,oR b3,oR b6,oI 0,oR b77,oI 1,oR b96,oI 2,oI 2,oI 0,oI 1] [vI 0,vI 0,vR b106] ?_
  obtain ⟨T114,h114,k114,X114,e114,E114,A114,EA114,st114⟩:=newPE (aty:=.long) X113 hx hZ (ow124 hw) e113 (g:=(mkF m 377 #[oR b1,oI 0,oI 1,oR b3,oR b6,oI 0,oR b77,oI 1,oR b96,oI 2,oI 2,oI 0,oI 1] [vI 0,vI 0,vR b106])) rfl (hb hby d1_377) rfl (by decide) (cap:=0) (by decide) (by decide) (by decide) (by decide) (ad:="[J") (by decide +kernel)
  obtain ⟨b114,g_b114⟩:∃ z,z = h110.size:=⟨_,rfl⟩
  have sg_b114:h110.size≤b114:=Nat.le_of_eq g_b114.symm
  rw [← g_b114] at A114 EA114 st114
  have n_b114:=oT Zs111 sg_b114
  have sz_b114:=oT K110.1 sg_b114
  have u115:=(oW V_b106.lt (Keep.of_wr W110).1)
  have m116:h42.size≤h110.size:=(oT (oT (Nat.le_refl _) E106.1) (Keep.of_wr W110).1)
  have K114:Keep h0 h114 [b1]:=K110.ext E114
  have V_b114:Arv Z h114 b114 k114 .long 0 [] (.long (0:Int64)):=Arv.new A114 (by decide)
  refine oJ 379 #[oR b1,oI 0,oI 1,oR b3,oR b6,oI 0,oR b77,oI 1,oR b96,oI 2,oI 2,oI 0,oI 1] [vR b114,vI 0,vR b106] st114 ?_
  obtain ⟨T117,h117,X117,e117,W117,V117,st117⟩:=own_stR X114 hx hZ e114 ((V_b106.other W110 (oM PE2.lt sz_b106)).ext E114) (j:=(0:Int32)) ⟨by decide,by decide⟩ rfl rfl (fun cl Ar q=>Sto.ofVA Ar q O106 (Ins.self EA114)) 0 rfl (Nat.le_of_ble_eq_true rfl) (g:=(mkF m 379 #[oR b1,oI 0,oI 1,oR b3,oR b6,oI 0,oR b77,oI 1,oR b96,oI 2,oI 2,oI 0,oI 1] [vR b114,vI 0,vR b106])) rfl rfl (hb hby d1_379)
  have K117:Keep h0 h117 [b1]:=K114.wr W117 (Or.inr sz_b106)
  have V117s:Arv Z h117 b106 k106 (.array .long) 1 [vR b114] .null:=V117
  have N117:=Fr.snoc X117 N113 n_b106
  refine oH st117 X117 tt 9 361 #[oR b1,oI 0,oI 1,oR b3,oR b6,oI 1,oI 0,oI 1,oR b96,oI 2,oI 2,oI 0,oI 1] [vR b6,vI 1] rfl ?_
  have c118:=oT c100 m108
  have q119:=oL u18 (oT c118 sg_b106)
  have G120:=((((G102.ext E106).other W110 (Or.inl (oM PE2.lt sz_b6))).ext E114).other W117 (Or.inl q119))
  refine own_cI X117 hx hZ hown e117 (ow82 hw) (ow83 hw) (mvT hZ (ow84 hw)) (ow85 hw) (ow86 hw) (ow87 hw) (ow88 hw) (ow54 hw) (ow13 hw) (ow89 hw) ((((G103.ext E106).wr W110).ext E114).wr W117) (y:=mn11) (z:=mn10) (argsL:=[]) (rest:=[vI 1]) (W:=1) hml.symm (hb hby d1_361) (lenOf pd0 rfl) rfl (by decide) (rm12a12 l Z a0 hw [] b6 h117 n0 (oT (oT Zs111 E114.1) (Keep.of_wr W117).1) G120) fun _ T121 _ X121 hQ121=>?_
  obtain ⟨rfl,N121q,hh121⟩:=hQ121
  have N121:=Fr.app N117 N121q
  obtain ⟨_,X121,N121⟩:=own_hide X121 N121
  refine oV 366 #[oR b1,oI 0,oI 1,oR b3,oR b6,oI 1,oI 0,oI 1,oR b96,oI 2,oI 2,oI 0,oI 1] [vI 1,vI 1] ?_
  refine oG X121 tt 1 424 #[oR b1,oI 0,oI 1,oR b3,oR b6,oI 1,oI 0,oI 1,oR b96,oI 2,oI 2,oI 0,oI 1] [] rfl ?_
  refine own_ret X121 (v:=none) (fun _=>rfl) Bs (fun fs hr=>X121.returnOut hx Br (hb hby d1_424) hr) ?_ (by decide) (by decide)
  unfold Q1a1
  have G122:=(((((G31.keep Kq42 (ninS (oL PE2.lt sz_b96) (ninS (oL PE2.lt sz_x51a) (ninS (oL PE2.lt sz_x60a) (ninS (oL PE2.lt sz_b69) nin0))))).ext E106).other W110 (Or.inr (sn_93_123 hw))).ext E114).other W117 (Or.inl (oL PE2.lt sz_b106)))
  have G123:=(((((G32.keep Kq42 (ninS (oL PE2.lt sz_b96) (ninS (oL PE2.lt sz_x51a) (ninS (oL PE2.lt sz_x60a) (ninS (oL PE2.lt sz_b69) nin0))))).ext E106).other W110 (Or.inr (sn_95_123 hw))).ext E114).other W117 (Or.inl (oL PE2.lt sz_b106)))
  have q124:=oL u61 (oT m72 sg_b69)
  have c125:=oT c99 m98
  have q126:=oL u61 (oT c125 sg_b96)
  have c127:=oT c125 m108
  have q128:=oL u61 (oT c127 sg_b106)
  have G129:=(((((G10.keep Kq42 (ninS q126 (ninS (Ne.symm nn_x51a_b51) (ninS (oL u61 sg_x60a) (ninS q124 nin0))))).ext E106).other W110 (oM PE2.lt sz_b51)).ext E114).other W117 q128)
  have K130:Keep _ h117 [b77,b96,x51a,x60a,b69,b1,b106]:=((((Keep.trans ((Keep.trans (Keep.refl _ _) Kq95 (allS oI0 all0)).ext E96) Kq42 (allS oI1 (allS oI2 (allS oI3 (allS oI4 all0))))).ext E106).wr W110 oI5).ext E114).wr W117 oI6
  have q131:=oL u62 (oT c127 sg_b106)
  have G132:=((((V42_4.ext E106).other W110 (oM PE2.lt sz_x51a)).ext E114).other W117 q131)
  have c133:=oT m79 m98
  have q134:=oL u70 (oT c133 sg_b96)
  have c135:=oT c133 m108
  have q136:=oL u70 (oT c135 sg_b106)
  have G137:=(((((G27.keep Kq42 (ninS q134 (ninS (oM u62 sg_b60) (ninS (Ne.symm nn_x60a_b60) (ninS (oL u70 sg_b69) nin0))))).ext E106).other W110 (oM PE2.lt sz_b60)).ext E114).other W117 q136)
  have q138:=oL u71 (oT c135 sg_b106)
  have G139:=((((V42_6.ext E106).other W110 (oM PE2.lt sz_x60a)).ext E114).other W117 q138)
  rw [hh121]
  exact ⟨b51,k51,x51a,kc51,b60,k60,x60a,kc60,rfl,N121,K117,n_b51,sz_b51,n_x51a,sz_x51a,n_b60,sz_b60,n_x60a,sz_x60a,nn_x51a_b51,(oM u61 sg_b60),(oM u62 sg_b60),(oM u61 sg_x60a),(oM u62 sg_x60a),nn_x60a_b60,G122,G123,G129,O51,((EE_b51.keep K86).keep K130),G132,((EE_x51a.keep K86).keep K130),G137,O60,(((((EE_b60.wr W65).ext E69).wr W74).ext E77).keep K130),G139,(((((EE_x60a.wr W65).ext E69).wr W74).ext E77).keep K130)⟩
theorem pd8:parseMethodDescriptor "(II)V" = some ⟨[.int,.int],none⟩:=by decide +kernel
def own_t17:Nat→Option (Instr × Nat):=tB 34 (tB 15 (tB 6 (tB 1 (tB 0 (tP 0 (.lconst 0)) (tQ 1 (.lstore 4) 2)) (tB 3 (tP 3 (.iconst 0)) (tB 4 (tQ 4 (.istore 6) 2) (tQ 6 (.iload 6) 2)))) (tB 12 (tB 8 (tP 8 (.aload_n 0)) (tB 9 (tQ 9 (.getfield 29) 3) (tP 12 (.iload_n 1)))) (tB 13 (tP 13 .aaload) (tB 14 (tP 14 .arraylength) (tQ 15 (.if_icmp .ge 56) 3))))) (tB 24 (tB 19 (tB 18 (tP 18 (.lload_n 2)) (tP 19 (.aload_n 0))) (tB 20 (tQ 20 (.getfield 26) 3) (tB 23 (tP 23 (.iload_n 1)) (tP 24 .aaload)))) (tB 28 (tB 25 (tQ 25 (.iload 6) 2) (tB 27 (tP 27 .iaload) (tP 28 .lushr))) (tB 29 (tQ 29 (.ldc2_w 86) 3) (tB 32 (tQ 32 (.bipush 64) 2) (tP 34 (.aload_n 0))))))) (tB 50 (tB 42 (tB 38 (tB 35 (tQ 35 (.getfield 29) 3) (tP 38 (.iload_n 1))) (tB 39 (tP 39 .aaload) (tB 40 (tQ 40 (.iload 6) 2) (tP 42 .iaload)))) (tB 45 (tB 43 (tP 43 .isub) (tB 44 (tP 44 .lushr) (tP 45 .land))) (tB 46 (tQ 46 (.lstore 7) 2) (tB 48 (tQ 48 (.lload 4) 2) (tP 50 (.aload_n 0)))))) (tB 59 (tB 55 (tB 51 (tQ 51 (.getfield 29) 3) (tB 54 (tP 54 (.iload_n 1)) (tP 55 .aaload))) (tB 56 (tQ 56 (.iload 6) 2) (tB 58 (tP 58 .iaload) (tP 59 .lshl)))) (tB 63 (tB 60 (tQ 60 (.lload 7) 2) (tB 62 (tP 62 .lor) (tQ 63 (.lstore 4) 2))) (tB 65 (tQ 65 (.iinc 6 1) 3) (tB 68 (tQ 68 (.goto (-62)) 3) (tQ 71 (.lload 4) 2))))))
theorem own_ok17:∀ pc q,own_fetch 74 own_t17 pc = some q→decode prog_28_method_6_code pc = .ok q:=own_tab (by decide +kernel)
theorem d17_73:decode prog_28_method_6_code 73 = .ok (.lreturn,1):=by decide +kernel
def Q17a17 (Z:State)(q2:Int64)(h0:Heap)(n0:Nat)(v:Option Value)(h:Heap)(L:List Loc):Prop:=v = some (.long (kf 0 q2 0 64))∧Fr n0 L∧h = h0
set_option maxRecDepth 65536 in
set_option maxHeartbeats 40000000 in
theorem rm17a17 (l:Launch)(Z:State)(a0:Array Value)(hw:HW a0 Z)(ws:List Jvm.Cond)(b1:Addr)(q2:Int64)(b5a b5e:Addr)(k5b:ClassId)(b5c:Addr)(k5d k5f:ClassId)(b5g:Addr)(k5h:ClassId)(h0:Heap)(n0:Nat)(Z0:n0≤h0.size)(PF3:oF3 Z h0 b1 (vR b5a))(PF4:oF4 Z h0 b1 (vR b5e))(PV7:Arv Z h0 b5a k5b (.array .int) 1 [vR b5c] .null)(PV9:Arv Z h0 b5c k5d .int 1 [vI 0] (vI 0))(PV11:Arv Z h0 b5e k5f (.array .int) 1 [vR b5g] .null)(PV13:Arv Z h0 b5g k5h .int 1 [vI 64] (vI 0)) :
    own_Met l mn18 prog_28_method_6_code 9 (some .long) ws (oRm 0 0 0 0) #[vR b1,vI 0,(.long q2)] Z h0 (Q17a17 Z q2 h0 n0):=by
  refine own_met (own:=oLy) rfl (plainFor_of_name pn_0) ?_
  intro p e s m below meth c s₁ hx hby hml hZ hown hnm X0 e0 Br Bs
  have N0:=Fr.nil n0
  have tt:=own_tt hx hby own_ok17
  refine oV 0 #[oR b1,oI 0,oQ q2,oS,oU,oU,oU,oU,oU] [] ?_
  refine oX3 a0 [b1,b5a,b5c,b5e,b5g] [0,k5b,k5d,k5f,k5h] [fE17_29 0 (vR 3),fE17_26 0 (vR 1)] [(86,(-1))] [] [3,4,1,2] 5 [oR 0,oI 0,oQ q2,oS,oU,oU,oU,oU,oU] [] [(3,(.array .int),1,[vR 4]),(4,.int,1,[vI 64]),(1,(.array .int),1,[vR 2]),(2,.int,1,[vI 0])] 73 [oR 0,oI 0,oQ q2,oS,oQ (kf 0 q2 0 64),oS,oI 1,oQ (kg q2 0 64),oS] [.long (kf 0 q2 0 64)] [] tt hZ hown X0 N0 e0 (oA (ow94 hw) (oA (ow92 hw) trivial)) (oA (ow131 hw) trivial) (oA PF4 (oA PF3 trivial)) (oA PV11 (oA PV13 (oA PV7 (oA PV9 trivial)))) (Or.inl rfl) trivial rfl rfl (by decide +kernel) _ (oC 11 18 [oR 0,oI 0,oQ q2,oS,oQ 0,oS,oI 0,oU,oU] [] rfl (oC 10 34 [oR 0,oI 0,oQ q2,oS,oQ 0,oS,oI 0,oU,oU] [vI 64,.long (-1),.long (kh q2 0)] rfl (oC 10 48 [oR 0,oI 0,oQ q2,oS,oQ 0,oS,oI 0,oQ (kg q2 0 64),oS] [] rfl (oC 11 65 [oR 0,oI 0,oQ q2,oS,oQ (kf 0 q2 0 64),oS,oI 0,oQ (kg q2 0 64),oS] [] (n2:=10) rfl rfl)))) fun T6 h6 _ X6 N6 e6 K6 q6 M6=>?_
  have e6:=e6.trans (q6 rfl)
  refine oV 73 #[oR b1,oI 0,oQ q2,oS,oQ (kf 0 q2 0 64),oS,oI 1,oQ (kg q2 0 64),oS] [(.long (kf 0 q2 0 64))] ?_
  refine own_ret X6 (v:=some (.long (kf 0 q2 0 64))) (oN Br) Bs (fun fs hr=>own_retL X6 hx Br (hb hby d17_73) hr) ?_ (by decide) (by decide)
  unfold Q17a17
  exact ⟨rfl,N6,e6⟩
theorem pd12:parseMethodDescriptor "(IJ)J" = some ⟨[.int,.long],some .long⟩:=by decide +kernel
def own_t18:Nat→Option (Instr × Nat):=tB 116 (tB 55 (tB 26 (tB 12 (tB 6 (tB 1 (tB 0 (tP 0 (.iload_n 1)) (tQ 1 (.ifCond .ne 5) 3)) (tB 4 (tP 4 (.lload_n 2)) (tP 6 (.iload_n 0)))) (tB 8 (tB 7 (tP 7 (.iconst 1)) (tQ 8 (.if_icmp .ne 13) 3)) (tB 11 (tP 11 (.lload_n 2)) (tQ 12 (.bipush 32) 2)))) (tB 18 (tB 15 (tB 14 (tP 14 .lshl) (tP 15 (.lload_n 2))) (tB 16 (tQ 16 (.bipush 32) 2) (tP 18 .lushr))) (tB 21 (tB 19 (tP 19 .lor) (tP 21 (.iload_n 0))) (tB 22 (tP 22 (.iconst 2)) (tB 23 (tQ 23 (.if_icmp .eq 8) 3) (tP 26 (.iload_n 0))))))) (tB 40 (tB 32 (tB 28 (tB 27 (tP 27 (.iconst 3)) (tQ 28 (.if_icmp .ne 101) 3)) (tB 31 (tP 31 (.lload_n 2)) (tQ 32 (.bipush 42) 2))) (tB 35 (tB 34 (tP 34 .lushr) (tQ 35 (.lstore 4) 2)) (tB 37 (tP 37 (.lload_n 2)) (tB 38 (tQ 38 (.bipush 21) 2) (tP 40 .lushr))))) (tB 47 (tB 44 (tB 41 (tQ 41 (.ldc2_w 23) 3) (tP 44 .land)) (tB 45 (tQ 45 (.lstore 6) 2) (tP 47 (.lload_n 2)))) (tB 51 (tB 48 (tQ 48 (.ldc2_w 23) 3) (tP 51 .land)) (tB 52 (tQ 52 (.lstore 8) 2) (tB 54 (tP 54 (.iload_n 0)) (tP 55 (.iconst 2)))))))) (tB 86 (tB 71 (tB 61 (tB 59 (tB 56 (tQ 56 (.if_icmp .ne 38) 3) (tP 59 (.iload_n 1))) (tB 60 (tP 60 (.iconst 1)) (tQ 61 (.if_icmp .ne 18) 3))) (tB 66 (tB 64 (tQ 64 (.lload 4) 2) (tQ 66 (.bipush 42) 2)) (tB 68 (tP 68 .lshl) (tB 69 (tQ 69 (.lload 8) 2) (tQ 71 (.bipush 21) 2))))) (tB 77 (tB 74 (tB 73 (tP 73 .lshl) (tP 74 .lor)) (tB 75 (tQ 75 (.lload 6) 2) (tP 77 .lor))) (tB 81 (tB 79 (tQ 79 (.lload 6) 2) (tQ 81 (.bipush 43) 2)) (tB 83 (tP 83 .lshl) (tB 84 (tQ 84 (.lload 8) 2) (tQ 86 (.bipush 22) 2)))))) (tB 101 (tB 92 (tB 89 (tB 88 (tP 88 .lshl) (tP 89 .lor)) (tB 90 (tQ 90 (.lload 4) 2) (tP 92 .lor))) (tB 95 (tB 94 (tP 94 (.iload_n 1)) (tP 95 (.iconst 1))) (tB 96 (tQ 96 (.if_icmp .ne 18) 3) (tB 99 (tQ 99 (.lload 6) 2) (tQ 101 (.bipush 43) 2))))) (tB 108 (tB 104 (tB 103 (tP 103 .lshl) (tQ 104 (.lload 4) 2)) (tB 106 (tQ 106 (.bipush 21) 2) (tP 108 .lshl))) (tB 110 (tB 109 (tP 109 .lor) (tQ 110 (.lload 8) 2)) (tB 112 (tP 112 .lor) (tB 114 (tQ 114 (.lload 8) 2) (tQ 116 (.bipush 43) 2)))))))) (tB 176 (tB 145 (tB 130 (tB 123 (tB 119 (tB 118 (tP 118 .lshl) (tQ 119 (.lload 4) 2)) (tB 121 (tQ 121 (.bipush 21) 2) (tP 123 .lshl))) (tB 125 (tB 124 (tP 124 .lor) (tQ 125 (.lload 6) 2)) (tB 127 (tP 127 .lor) (tB 129 (tP 129 (.lload_n 2)) (tQ 130 (.bipush 48) 2))))) (tB 136 (tB 133 (tB 132 (tP 132 .lushr) (tQ 133 (.lstore 4) 2)) (tB 135 (tP 135 (.lload_n 2)) (tQ 136 (.bipush 32) 2))) (tB 139 (tB 138 (tP 138 .lushr) (tQ 139 (.ldc2_w 25) 3)) (tB 142 (tP 142 .land) (tB 143 (tQ 143 (.lstore 6) 2) (tP 145 (.lload_n 2))))))) (tB 160 (tB 152 (tB 148 (tB 146 (tQ 146 (.bipush 16) 2) (tP 148 .lushr)) (tB 149 (tQ 149 (.ldc2_w 25) 3) (tP 152 .land))) (tB 155 (tB 153 (tQ 153 (.lstore 8) 2) (tP 155 (.lload_n 2))) (tB 156 (tQ 156 (.ldc2_w 25) 3) (tB 159 (tP 159 .land) (tQ 160 (.lstore 10) 2))))) (tB 167 (tB 163 (tB 162 (tP 162 (.iload_n 1)) (tP 163 (.iconst 1))) (tB 164 (tQ 164 (.if_icmp .ne 24) 3) (tQ 167 (.lload 4) 2))) (tB 171 (tB 169 (tQ 169 (.bipush 48) 2) (tP 171 .lshl)) (tB 172 (tQ 172 (.lload 6) 2) (tB 174 (tQ 174 (.bipush 32) 2) (tP 176 .lshl))))))) (tB 204 (tB 189 (tB 182 (tB 178 (tB 177 (tP 177 .lor) (tQ 178 (.lload 10) 2)) (tB 180 (tQ 180 (.bipush 16) 2) (tP 182 .lshl))) (tB 184 (tB 183 (tP 183 .lor) (tQ 184 (.lload 8) 2)) (tB 186 (tP 186 .lor) (tB 188 (tP 188 (.iload_n 1)) (tP 189 (.iconst 2)))))) (tB 197 (tB 193 (tB 190 (tQ 190 (.if_icmp .ne 24) 3) (tQ 193 (.lload 4) 2)) (tB 195 (tQ 195 (.bipush 48) 2) (tP 197 .lshl))) (tB 200 (tB 198 (tQ 198 (.lload 8) 2) (tQ 200 (.bipush 32) 2)) (tB 202 (tP 202 .lshl) (tB 203 (tP 203 .lor) (tQ 204 (.lload 10) 2)))))) (tB 219 (tB 210 (tB 208 (tB 206 (tQ 206 (.bipush 16) 2) (tP 208 .lshl)) (tB 209 (tP 209 .lor) (tQ 210 (.lload 6) 2))) (tB 214 (tB 212 (tP 212 .lor) (tQ 214 (.lload 6) 2)) (tB 216 (tQ 216 (.bipush 48) 2) (tB 218 (tP 218 .lshl) (tQ 219 (.lload 8) 2))))) (tB 225 (tB 223 (tB 221 (tQ 221 (.bipush 32) 2) (tP 223 .lshl)) (tB 224 (tP 224 .lor) (tQ 225 (.lload 10) 2))) (tB 229 (tB 227 (tQ 227 (.bipush 16) 2) (tP 229 .lshl)) (tB 230 (tP 230 .lor) (tB 231 (tQ 231 (.lload 4) 2) (tP 233 .lor))))))))
theorem own_ok18:∀ pc q,own_fetch 235 own_t18 pc = some q→decode method_3_code pc = .ok q:=own_tab (by decide +kernel)
theorem d18_5:decode method_3_code 5 = .ok (.lreturn,1):=by decide +kernel
theorem pn_1:plainName "com/example/libakin/libakin/simhash/LayoutKeyPinLaw" = true:=by first | (simp [plainName,overriddenIn]; done) | decide +kernel
def Q18a18 (Z:State)(q2:Int64)(h0:Heap)(n0:Nat)(v:Option Value)(h:Heap)(L:List Loc):Prop:=v = some (.long q2)∧Fr n0 L∧h = h0
set_option maxRecDepth 65536 in
set_option maxHeartbeats 40000000 in
theorem rm18a18 (l:Launch)(Z:State)(a0:Array Value)(hw:HW a0 Z)(ws:List Jvm.Cond)(q2:Int64)(h0:Heap)(n0:Nat)(Z0:n0≤h0.size) :
    own_Met l mn19 method_3_code 12 (some .long) ws (oRm 0 0 0 0) #[vI 0,vI 0,(.long q2)] Z h0 (Q18a18 Z q2 h0 n0):=by
  refine own_met (own:="com/example/libakin/libakin/simhash/LayoutKeyPinLaw") rfl (plainFor_of_name pn_1) ?_
  intro p e s m below meth c s₁ hx hby hml hZ hown hnm X0 e0 Br Bs
  have N0:=Fr.nil n0
  have tt:=own_tt hx hby own_ok18
  refine oV 0 #[oI 0,oI 0,oQ q2,oS,oU,oU,oU,oU,oU,oU,oU,oU] [] ?_
  refine oG X0 tt 3 5 #[oI 0,oI 0,oQ q2,oS,oU,oU,oU,oU,oU,oU,oU,oU] [(.long q2)] rfl ?_
  refine own_ret X0 (v:=some (.long q2)) (oN Br) Bs (fun fs hr=>own_retL X0 hx Br (hb hby d18_5) hr) ?_ (by decide) (by decide)
  unfold Q18a18
  exact ⟨rfl,N0,e0⟩
theorem pd10:parseMethodDescriptor "(IIJ)J" = some ⟨[.int,.int,.long],some .long⟩:=by decide +kernel
def Q6a21 (Z:State)(b3:Addr)(k4:ClassId)(h0:Heap)(n0:Nat)(v:Option Value)(h:Heap)(L:List Loc):Prop:=∃ (b5a:Addr)(k5b:ClassId)(b6:Addr),v = none∧Fr n0 L∧Keep h0 h [b3]∧n0≤b5a∧h0.size≤b5a∧n0≤b6∧h0.size≤b6∧b6≠b5a∧oF0 Z h b3 (vI 1)∧oF1 Z h b3 (vR b5a)∧oF2 Z h b3 (vI 1)∧Arv Z h b5a k5b (.object oOb) 10 [vR b6,.null,.null,.null,.null,.null,.null,.null,.null,.null] .null∧Ovr Z k5b oOb∧Arv Z h b6 k4 .int 1 [vI 0] (vI 0)∧Exa Z h b6 "[I"
set_option maxRecDepth 65536 in
set_option maxHeartbeats 40000000 in
theorem rm6a21 (l:Launch)(Z:State)(a0:Array Value)(hw:HW a0 Z)(ws:List Jvm.Cond)(b5 b6 wd:Addr)(kd k5:ClassId)(h0:Heap)(n0:Nat)(Z0:n0≤h0.size)(PS0:Sta Z h0 "java/util/ArrayList" "DEFAULTCAPACITY_EMPTY_ELEMENTDATA" "[Ljava/lang/Object;" (vR wd))(PV1:Arv Z h0 wd kd (.object oOb) 0 [] .null)(PE9:Exa Z h0 b6 "java/util/ArrayList")(PF10:oF0 Z h0 b6 (vI 0))(PF11:oF1 Z h0 b6 (vR wd))(PF12:oF2 Z h0 b6 (vI 0))(PV13:Arv Z h0 b5 k5 .int 1 [vI 0] (vI 0))(PE14:Exa Z h0 b5 "[I")(ne_wd_b6:wd≠b6)(n_b6:n0≤b6) :
    own_Met l mn9 prog_28_method_10_code 7 none ws (oRm 5 2 11 69) #[vI 2,vI 1,vI 1,vR b5,vI 1,vR b6] Z h0 (Q6a21 Z b6 k5 h0 n0):=by
  refine own_met (own:=oLy) rfl (plainFor_of_name pn_0) ?_
  intro p e s m below meth c s₁ hx hby hml hZ hown hnm X0 e0 Br Bs
  have N0:=Fr.nil n0
  have tt:=own_tt hx hby own_ok6
  refine oV 0 #[oI 2,oI 1,oI 1,oR b5,oI 1,oR b6,oU] [] ?_
  refine oG X0 tt 5 9 #[oI 2,oI 1,oI 1,oR b5,oI 1,oR b6,oU] [vR b5,vR b6] rfl ?_
  obtain ⟨T7,h7,X7,e7,E7,A7,EA7,st7⟩:=cloneH X0 hx hZ hown (ow38 hw) (ow39 hw) (ow43 hw) (ow41 hw) (ow42 hw) (ow44 hw) e0 (hs:=[]) PV13 PE14 (g:=(mkF m 9 #[oI 2,oI 1,oI 1,oR b5,oI 1,oR b6,oU] [vR b5,vR b6])) rfl hml.symm rfl (hb hby d6_9) (by decide) (W:=1) (cap:=1) (oZ rfl) (by decide) (by decide) (by decide) (by decide)
  obtain ⟨b7,g_b7⟩:∃ z,z = h0.size:=⟨_,rfl⟩
  have sg_b7:h0.size≤b7:=Nat.le_of_eq g_b7.symm
  rw [← g_b7] at A7 EA7 st7
  have n_b7:=oT Z0 sg_b7
  have sz_b7:=oT (Keep.refl h0 [b6]).1 sg_b7
  have K7:Keep h0 h7 [b6]:=(Keep.refl h0 [b6]).ext E7
  have V_b7:Arv Z h7 b7 k5 .int 1 [vI 0] (vI 0):=A7
  refine oJ 12 #[oI 2,oI 1,oI 1,oR b5,oI 1,oR b6,oU] [vR b7,vR b6] st7 ?_
  obtain ⟨T8,X8,e8,st8⟩:=castY X7 hx hZ hown (ow45 hw) e7 (Ins.self EA7) (g:=(mkF m 12 #[oI 2,oI 1,oI 1,oR b5,oI 1,oR b6,oU] [vR b7,vR b6])) rfl rfl (hb hby d6_12)
  refine oJ 15 #[oI 2,oI 1,oI 1,oR b5,oI 1,oR b6,oU] [vR b7,vR b6] st8 ?_
  refine own_cI X8 hx hZ hown e8 (ow47 hw) (ow48 hw) (mvT hZ (ow49 hw)) (ow50 hw) (ow51 hw) (ow52 hw) (ow53 hw) (ow54 hw) (ow13 hw) (ow55 hw) (PE9.ext E7) (y:=mn8) (z:=mn7) (argsL:=[vR b7]) (rest:=[]) (W:=0) hml.symm (hb hby d6_15) (lenOf pd13 rfl) rfl (by decide) (rm7a7 l Z a0 hw [] b6 b7 wd kd h7 n0 (oT Z0 E7.1) (PS0.ext E7) (PV1.ext E7) (PE9.ext E7) (PF10.ext E7) (PF11.ext E7) (PF12.ext E7) EA7 ne_wd_b6 n_b6) fun _ T15 _ X15 hQ15=>?_
  obtain ⟨b15a,k15b,rfl,N15q,K15,n_b15a,sg_b15a,g15_0,g15_1,g15_2,g15_3,g15_4⟩:=hQ15
  have N15:=Fr.app N0 N15q
  have sz_b15a:=oT K7.1 sg_b15a
  have u16:b7 < h7.size:=V_b7.lt
  have m17:h0.size≤h7.size:=(oT (Nat.le_refl _) E7.1)
  have eK15:T15.heap = T15.heap:=rfl
  have KK15:Keep h0 T15.heap [b6]:=Keep.trans K7 K15 (allS oI0 all0)
  obtain ⟨_,X15,N15⟩:=own_hide X15 N15
  refine oV 20 #[oI 2,oI 1,oI 1,oR b5,oI 1,oR b6,oU] [vI 1] ?_
  refine oG X15 tt 2 66 #[oI 2,oI 1,oI 1,oR b5,oI 1,oR b6,oU] [] rfl ?_
  refine own_ret X15 (v:=none) (fun _=>rfl) Bs (fun fs hr=>X15.returnOut hx Br (hb hby d6_66) hr) ?_ (by decide) (by decide)
  unfold Q6a21
  rw [eK15]
  exact ⟨b15a,k15b,b7,rfl,N15,KK15,n_b15a,sz_b15a,n_b7,sz_b7,(oL u16 sg_b15a),g15_0,g15_1,g15_2,g15_3,g15_4,(V_b7.keep K15 (ninS (oM PE9.lt sz_b7) nin0)),(EA7.keep K15)⟩
def Q8a24 (Z:State)(b3 b4 b5a:Addr)(k5b:ClassId)(b5c:Addr)(h0:Heap)(n0:Nat)(v:Option Value)(h:Heap)(L:List Loc):Prop:=v = none∧Fr n0 L∧Keep h0 h [b5a,b3]∧Arv Z h b5a k5b (.object oOb) 10 [vR b5c,vR b4,.null,.null,.null,.null,.null,.null,.null,.null] .null∧oF0 Z h b3 (vI 2)∧oF1 Z h b3 (vR b5a)∧oF2 Z h b3 (vI 2)
set_option maxRecDepth 65536 in
set_option maxHeartbeats 40000000 in
theorem rm8a24 (l:Launch)(Z:State)(a0:Array Value)(hw:HW a0 Z)(ws:List Jvm.Cond)(b3 b4 b5a:Addr)(k5b:ClassId)(b5c:Addr)(h0:Heap)(n0:Nat)(Z0:n0≤h0.size)(PE9:Exa Z h0 b3 "java/util/ArrayList")(PF10:oF0 Z h0 b3 (vI 2))(PF11:oF1 Z h0 b3 (vR b5a))(PF12:oF2 Z h0 b3 (vI 1))(PV15:Arv Z h0 b5a k5b (.object oOb) 10 [vR b5c,.null,.null,.null,.null,.null,.null,.null,.null,.null] .null)(PE19:Exa Z h0 b4 "[I")(ov_b5a:Ovr Z k5b oOb)(ne_b3_b5a:b3≠b5a)(ne_b5a_b3:b5a≠b3)(n_b3:n0≤b3)(n_b5a:n0≤b5a) :
    own_Met l mn6 jdk_38_method_24_code 4 none ws (oRm 0 0 0 0) #[vR b3,vR b4,vR b5a,vI 1] Z h0 (Q8a24 Z b3 b4 b5a k5b b5c h0 n0):=by
  refine own_met (own:="java/util/ArrayList") rfl (plainFor_of_name pn_6) ?_
  intro p e s m below meth c s₁ hx hby hml hZ hown hnm X0 e0 Br Bs
  have N0:=Fr.nil n0
  have tt:=own_tt hx hby own_ok8
  refine oV 0 #[oR b3,oR b4,oR b5a,oI 1] [] ?_
  refine oX2 a0 [b3,b5a,b5c,b4] [0,k5b,0,0] [] [] [] [1] 4 [oR 0,oR 3,oR 1,oI 1] [] [(1,(.object oOb),10,[vR 2,.null,.null,.null,.null,.null,.null,.null,.null,.null])] 14 [oR 0,oR 3,oR 1,oI 1] [vR 3,vI 1,vR 1] [] tt hZ hown X0 N0 e0 trivial trivial trivial (oA PV15 trivial) (Or.inl rfl) trivial rfl rfl (by decide +kernel) 7 (by decide +kernel) fun T6 h6 _ X6 N6 e6 K6 q6 M6=>?_
  have e6:=e6.trans (q6 rfl)
  refine oV 14 #[oR b3,oR b4,oR b5a,oI 1] [vR b4,vI 1,vR b5a] ?_
  obtain ⟨T7,h7,X7,e7,W7,V7,st7⟩:=own_stR X6 hx hZ e6 PV15 (j:=(1:Int32)) ⟨by decide,by decide⟩ rfl rfl (fun cl Ar q=>Sto.ofV Ar q ov_b5a (Ins.of_exa PE19 (ow81 hw))) 1 rfl (Nat.le_of_ble_eq_true rfl) (g:=(mkF m 14 #[oR b3,oR b4,oR b5a,oI 1] [vR b4,vI 1,vR b5a])) rfl rfl (hb hby d8_14)
  have K7:Keep h0 h7 [b5a,b3]:=(Keep.refl h0 [b5a,b3]).wr W7 oI0
  have V7s:Arv Z h7 b5a k5b (.object oOb) 10 [vR b5c,vR b4,.null,.null,.null,.null,.null,.null,.null,.null] .null:=V7
  have N7:=Fr.snoc X7 N6 n_b5a
  refine oH st7 X7 tt 4 19 #[oR b3,oR b4,oR b5a,oI 1] [vI 2,vR b3] rfl ?_
  obtain ⟨T8,h8,X8,e8,W8,st8⟩:=putF X7 hx hZ hown (host:="") (Or.inl (ow58 hw)) Via.refl e7 (PF12.other W7 (Or.inl ne_b3_b5a)) (PE9.wr W7) (Or.inl (ow59 hw)) (ow12 hw) (ty:=.int) (by decide) rfl rfl (g:=(mkF m 19 #[oR b3,oR b4,oR b5a,oI 1] [vI 2,vR b3])) rfl rfl (hb hby d8_19)
  have Fw8:=Fld.same W8 (PF12.other W7 (Or.inl ne_b3_b5a))
  have K8:Keep h0 h8 [b5a,b3]:=K7.wr W8 oI1
  have N8:=Fr.snoc X8 N7 n_b3
  refine oJ 22 #[oR b3,oR b4,oR b5a,oI 1] [] st8 ?_
  refine own_ret X8 (v:=none) (fun _=>rfl) Bs (fun fs hr=>X8.returnOut hx Br (hb hby d8_22) hr) ?_ (by decide) (by decide)
  unfold Q8a24
  have G13:=((PF10.other W7 (Or.inl ne_b3_b5a)).other W8 (Or.inr (sn_31_59 hw)))
  have G14:=((PF11.other W7 (Or.inl ne_b3_b5a)).other W8 (Or.inr (sn_34_59 hw)))
  rw [e8]
  exact ⟨rfl,N8,K8,(V7s.other W8 ne_b5a_b3),G13,G14,Fw8⟩
def Q7a23 (Z:State)(b3 b4 b5a:Addr)(k5b:ClassId)(b5c:Addr)(h0:Heap)(n0:Nat)(v:Option Value)(h:Heap)(L:List Loc):Prop:=v = some (vI 1)∧Fr n0 L∧Keep h0 h [b3,b5a]∧oF0 Z h b3 (vI 2)∧oF1 Z h b3 (vR b5a)∧oF2 Z h b3 (vI 2)∧Arv Z h b5a k5b (.object oOb) 10 [vR b5c,vR b4,.null,.null,.null,.null,.null,.null,.null,.null] .null
set_option maxRecDepth 65536 in
set_option maxHeartbeats 40000000 in
theorem rm7a23 (l:Launch)(Z:State)(a0:Array Value)(hw:HW a0 Z)(ws:List Jvm.Cond)(b4 b5 b6a:Addr)(k6b:ClassId)(b6c:Addr)(h0:Heap)(n0:Nat)(Z0:n0≤h0.size)(PE9:Exa Z h0 b4 "java/util/ArrayList")(PF10:oF0 Z h0 b4 (vI 1))(PF11:oF1 Z h0 b4 (vR b6a))(PF12:oF2 Z h0 b4 (vI 1))(PV15:Arv Z h0 b6a k6b (.object oOb) 10 [vR b6c,.null,.null,.null,.null,.null,.null,.null,.null,.null] .null)(PE19:Exa Z h0 b5 "[I")(ov_b6a:Ovr Z k6b oOb)(ne_b4_b6a:b4≠b6a)(ne_b6a_b4:b6a≠b4)(n_b4:n0≤b4)(n_b6a:n0≤b6a) :
    own_Met l mn7 jdk_38_method_25_code 2 (some .boolean) ws (oRm 1 0 0 15) #[vR b4,vR b5] Z h0 (Q7a23 Z b4 b5 b6a k6b b6c h0 n0):=by
  refine own_met (own:="java/util/ArrayList") rfl (plainFor_of_name pn_6) ?_
  intro p e s m below meth c s₁ hx hby hml hZ hown hnm X0 e0 Br Bs
  have N0:=Fr.nil n0
  have tt:=own_tt hx hby own_ok7
  refine oV 0 #[oR b4,oR b5] [] ?_
  refine oG X0 tt 2 2 #[oR b4,oR b5] [vR b4,vR b4] rfl ?_
  obtain ⟨T7,X7,e7,st7⟩:=getF X0 hx hZ hown (host:="") (Or.inl (ow56 hw)) (Via.of (ow57 hw)) e0 PF10 (g:=(mkF m 2 #[oR b4,oR b5] [vR b4,vR b4])) rfl rfl (hb hby d7_2)
  refine oH st7 X7 tt 2 7 #[oR b4,oR b5] [vI 2,vR b4] rfl ?_
  obtain ⟨T8,h8,X8,e8,W8,st8⟩:=putF X7 hx hZ hown (host:="") (Or.inl (ow56 hw)) (Via.of (ow57 hw)) e7 PF10 PE9 (Or.inl (ow31 hw)) (ow12 hw) (ty:=.int) (by decide) rfl rfl (g:=(mkF m 7 #[oR b4,oR b5] [vI 2,vR b4])) rfl rfl (hb hby d7_7)
  have Fw8:=Fld.same W8 PF10
  have K8:Keep h0 h8 [b4,b6a]:=(Keep.refl h0 [b4,b6a]).wr W8 oI0
  have N8:=Fr.snoc X8 N0 n_b4
  refine oJ 10 #[oR b4,oR b5] [] st8 ?_
  refine oX2 a0 [b4,b6a,b5] [0,0,0] [fE7_9 0 (vR 1),fE7_48 0 (vI 1)] [] [] [] 3 [oR 0,oR 2] [] [] 20 [oR 0,oR 2] [vI 1,vR 1,vR 2,vR 0] [] tt hZ hown X8 N8 e8 (oA (ow33 hw) (oA (ow58 hw) trivial)) trivial (oA (PF11.other W8 (Or.inr (sn_34_31 hw))) (oA (PF12.other W8 (Or.inr (sn_59_31 hw))) trivial)) trivial (Or.inl rfl) trivial rfl rfl (by decide +kernel) 6 (by decide +kernel) fun T13 h13 _ X13 N13 e13 K13 q13 M13=>?_
  have e13:=e13.trans (q13 rfl)
  refine oV 20 #[oR b4,oR b5] [vI 1,vR b6a,vR b5,vR b4] ?_
  refine own_cP X13 hx hZ hown e13 (ow60 hw) (ow61 hw) (mvT hZ (ow63 hw)) (ow62 hw) (ow13 hw) (ow64 hw) (PE9.wr W8) (y:=mn6) (argsL:=[vR b5,vR b6a,vI 1]) (rest:=[]) (W:=0) hml.symm (hb hby d7_20) (lenOf pd14 rfl) rfl (by decide) (rm8a24 l Z a0 hw [] b4 b5 b6a k6b b6c h8 n0 (oT Z0 (Keep.of_wr W8).1) (PE9.wr W8) Fw8 (PF11.other W8 (Or.inr (sn_34_31 hw))) (PF12.other W8 (Or.inr (sn_59_31 hw))) (PV15.other W8 ne_b6a_b4) (PE19.wr W8) ov_b6a ne_b4_b6a ne_b6a_b4 n_b4 n_b6a) fun _ T14 _ X14 hQ14=>?_
  obtain ⟨rfl,N14q,K14,g14_0,g14_1,g14_2,g14_3⟩:=hQ14
  have N14:=Fr.app N13 N14q
  have eK14:T14.heap = T14.heap:=rfl
  have KK14:Keep h0 T14.heap [b4,b6a]:=Keep.trans K8 K14 (allS oI1 (allS oI0 all0))
  obtain ⟨_,X14,N14⟩:=own_hide X14 N14
  refine oV 23 #[oR b4,oR b5] [] ?_
  refine oG X14 tt 1 24 #[oR b4,oR b5] [vI 1] rfl ?_
  refine own_ret X14 (v:=some (vI 1)) (oN Br) Bs (fun fs hr=>retN X14 hx (t:=.boolean) Br (by simp) (hb hby d7_24) hr) ?_ (by decide) (by decide)
  unfold Q7a23
  rw [eK14]
  exact ⟨rfl,N14,KK14,g14_1,g14_2,g14_3,g14_0⟩
def Q6a22 (Z:State)(b3 b4a:Addr)(k5 k4b:ClassId)(b4c:Addr)(h0:Heap)(n0:Nat)(v:Option Value)(h:Heap)(L:List Loc):Prop:=∃ (b6:Addr),v = none∧Fr n0 L∧Keep h0 h [b4a,b3]∧n0≤b6∧h0.size≤b6∧Arv Z h b4a k4b (.object oOb) 10 [vR b4c,vR b6,.null,.null,.null,.null,.null,.null,.null,.null] .null∧oF0 Z h b3 (vI 2)∧oF1 Z h b3 (vR b4a)∧oF2 Z h b3 (vI 2)∧Arv Z h b6 k5 .int 1 [vI 1] (vI 0)∧Exa Z h b6 "[I"
set_option maxRecDepth 65536 in
set_option maxHeartbeats 40000000 in
theorem rm6a22 (l:Launch)(Z:State)(a0:Array Value)(hw:HW a0 Z)(ws:List Jvm.Cond)(b4 b5 b6a:Addr)(k4 k6b:ClassId)(b6c:Addr)(h0:Heap)(n0:Nat)(Z0:n0≤h0.size)(PE9:Exa Z h0 b5 "java/util/ArrayList")(PF10:oF0 Z h0 b5 (vI 1))(PF11:oF1 Z h0 b5 (vR b6a))(PF12:oF2 Z h0 b5 (vI 1))(PV13:Arv Z h0 b4 k4 .int 1 [vI 1] (vI 0))(PE14:Exa Z h0 b4 "[I")(PV15:Arv Z h0 b6a k6b (.object oOb) 10 [vR b6c,.null,.null,.null,.null,.null,.null,.null,.null,.null] .null)(ov_b6a:Ovr Z k6b oOb)(ne_b5_b6a:b5≠b6a)(ne_b6a_b5:b6a≠b5)(n_b5:n0≤b5)(n_b6a:n0≤b6a) :
    own_Met l mn9 prog_28_method_10_code 7 none ws (oRm 2 1 1 28) #[vI 2,vI 1,vI 2,vR b4,vI 1,vR b5] Z h0 (Q6a22 Z b5 b6a k4 k6b b6c h0 n0):=by
  refine own_met (own:=oLy) rfl (plainFor_of_name pn_0) ?_
  intro p e s m below meth c s₁ hx hby hml hZ hown hnm X0 e0 Br Bs
  have N0:=Fr.nil n0
  have tt:=own_tt hx hby own_ok6
  refine oV 0 #[oI 2,oI 1,oI 2,oR b4,oI 1,oR b5,oU] [] ?_
  refine oG X0 tt 5 9 #[oI 2,oI 1,oI 2,oR b4,oI 1,oR b5,oU] [vR b4,vR b5] rfl ?_
  obtain ⟨T7,h7,X7,e7,E7,A7,EA7,st7⟩:=cloneH X0 hx hZ hown (ow38 hw) (ow39 hw) (ow43 hw) (ow41 hw) (ow42 hw) (ow44 hw) e0 (hs:=[]) PV13 PE14 (g:=(mkF m 9 #[oI 2,oI 1,oI 2,oR b4,oI 1,oR b5,oU] [vR b4,vR b5])) rfl hml.symm rfl (hb hby d6_9) (by decide) (W:=1) (cap:=1) (oZ rfl) (by decide) (by decide) (by decide) (by decide)
  obtain ⟨b7,g_b7⟩:∃ z,z = h0.size:=⟨_,rfl⟩
  have sg_b7:h0.size≤b7:=Nat.le_of_eq g_b7.symm
  rw [← g_b7] at A7 EA7 st7
  have n_b7:=oT Z0 sg_b7
  have sz_b7:=oT (Keep.refl h0 [b6a,b5]).1 sg_b7
  have K7:Keep h0 h7 [b6a,b5]:=(Keep.refl h0 [b6a,b5]).ext E7
  have V_b7:Arv Z h7 b7 k4 .int 1 [vI 1] (vI 0):=A7
  refine oJ 12 #[oI 2,oI 1,oI 2,oR b4,oI 1,oR b5,oU] [vR b7,vR b5] st7 ?_
  obtain ⟨T8,X8,e8,st8⟩:=castY X7 hx hZ hown (ow45 hw) e7 (Ins.self EA7) (g:=(mkF m 12 #[oI 2,oI 1,oI 2,oR b4,oI 1,oR b5,oU] [vR b7,vR b5])) rfl rfl (hb hby d6_12)
  refine oJ 15 #[oI 2,oI 1,oI 2,oR b4,oI 1,oR b5,oU] [vR b7,vR b5] st8 ?_
  refine own_cI X8 hx hZ hown e8 (ow47 hw) (ow48 hw) (mvT hZ (ow49 hw)) (ow50 hw) (ow51 hw) (ow52 hw) (ow53 hw) (ow54 hw) (ow13 hw) (ow55 hw) (PE9.ext E7) (y:=mn8) (z:=mn7) (argsL:=[vR b7]) (rest:=[]) (W:=0) hml.symm (hb hby d6_15) (lenOf pd13 rfl) rfl (by decide) (rm7a23 l Z a0 hw [] b5 b7 b6a k6b b6c h7 n0 (oT Z0 E7.1) (PE9.ext E7) (PF10.ext E7) (PF11.ext E7) (PF12.ext E7) (PV15.ext E7) EA7 ov_b6a ne_b5_b6a ne_b6a_b5 n_b5 n_b6a) fun _ T16 _ X16 hQ16=>?_
  obtain ⟨rfl,N16q,K16,g16_0,g16_1,g16_2,g16_3⟩:=hQ16
  have N16:=Fr.app N0 N16q
  have eK16:T16.heap = T16.heap:=rfl
  have KK16:Keep h0 T16.heap [b6a,b5]:=Keep.trans K7 K16 (allS oI1 (allS oI0 all0))
  obtain ⟨_,X16,N16⟩:=own_hide X16 N16
  refine oV 20 #[oI 2,oI 1,oI 2,oR b4,oI 1,oR b5,oU] [vI 1] ?_
  refine oG X16 tt 2 66 #[oI 2,oI 1,oI 2,oR b4,oI 1,oR b5,oU] [] rfl ?_
  refine own_ret X16 (v:=none) (fun _=>rfl) Bs (fun fs hr=>X16.returnOut hx Br (hb hby d6_66) hr) ?_ (by decide) (by decide)
  unfold Q6a22
  have G17:=(V_b7.keep K16 (ninS (oM PE9.lt sz_b7) (ninS (oM PV15.lt sz_b7) nin0)))
  rw [eK16]
  exact ⟨b7,rfl,N16,KK16,n_b7,sz_b7,g16_3,g16_0,g16_1,g16_2,G17,(EA7.keep K16)⟩
def Q6a20 (Z:State)(b3 b4:Addr)(k3:ClassId)(h0:Heap)(n0:Nat)(v:Option Value)(h:Heap)(L:List Loc):Prop:=∃ (b5a:Addr)(k5b:ClassId)(b5c b6a:Addr),v = none∧Fr n0 L∧Keep h0 h [b3,b4]∧n0≤b5a∧h0.size≤b5a∧n0≤b5c∧h0.size≤b5c∧n0≤b6a∧h0.size≤b6a∧b5c≠b5a∧b6a≠b5a∧b6a≠b5c∧Arv Z h b3 k3 .int 1 [vI 1] (vI 0)∧oF0 Z h b4 (vI 2)∧oF1 Z h b4 (vR b5a)∧oF2 Z h b4 (vI 2)∧Arv Z h b5a k5b (.object oOb) 10 [vR b5c,vR b6a,.null,.null,.null,.null,.null,.null,.null,.null] .null∧Ovr Z k5b oOb∧Arv Z h b5c k3 .int 1 [vI 0] (vI 0)∧Exa Z h b5c "[I"∧Arv Z h b6a k3 .int 1 [vI 1] (vI 0)∧Exa Z h b6a "[I"
set_option maxRecDepth 65536 in
set_option maxHeartbeats 40000000 in
theorem rm6a20 (l:Launch)(Z:State)(a0:Array Value)(hw:HW a0 Z)(ws:List Jvm.Cond)(b7 b8 wd:Addr)(kd k7:ClassId)(h0:Heap)(n0:Nat)(Z0:n0≤h0.size)(PS0:Sta Z h0 "java/util/ArrayList" "DEFAULTCAPACITY_EMPTY_ELEMENTDATA" "[Ljava/lang/Object;" (vR wd))(PV1:Arv Z h0 wd kd (.object oOb) 0 [] .null)(PE9:Exa Z h0 b8 "java/util/ArrayList")(PF10:oF0 Z h0 b8 (vI 0))(PF11:oF1 Z h0 b8 (vR wd))(PF12:oF2 Z h0 b8 (vI 0))(PV13:Arv Z h0 b7 k7 .int 1 [vI 0] (vI 0))(PE14:Exa Z h0 b7 "[I")(ne_wd_b8:wd≠b8)(ne_wd_b7:wd≠b7)(ne_b8_b7:b8≠b7)(ne_b7_b8:b7≠b8)(n_b7:n0≤b7)(n_b8:n0≤b8) :
    own_Met l mn9 prog_28_method_10_code 7 none ws (oRm 6 3 12 87) #[vI 2,vI 1,vI 0,vR b7,vI 0,vR b8] Z h0 (Q6a20 Z b7 b8 k7 h0 n0):=by
  refine own_met (own:=oLy) rfl (plainFor_of_name pn_0) ?_
  intro p e s m below meth c s₁ hx hby hml hZ hown hnm X0 e0 Br Bs
  have N0:=Fr.nil n0
  have tt:=own_tt hx hby own_ok6
  refine oV 0 #[oI 2,oI 1,oI 0,oR b7,oI 0,oR b8,oU] [] ?_
  refine oG X0 tt 15 43 #[oI 2,oI 1,oI 0,oR b7,oI 0,oR b8,oI 0] [vI 0,vI 0,vR b7] rfl ?_
  obtain ⟨T15,h15,X15,e15,W15,V15,st15⟩:=own_stI X0 hx hZ e0 PV13 (j:=(0:Int32)) ⟨by decide,by decide⟩ 0 rfl (Nat.le_of_ble_eq_true rfl) (g:=(mkF m 43 #[oI 2,oI 1,oI 0,oR b7,oI 0,oR b8,oI 0] [vI 0,vI 0,vR b7])) rfl rfl (hb hby d6_43)
  have K15:Keep h0 h15 [b7,b8]:=(Keep.refl h0 [b7,b8]).wr W15 oI0
  have V15s:Arv Z h15 b7 k7 .int 1 [vI 0] (vI 0):=V15
  have N15:=Fr.snoc X15 N0 n_b7
  refine oH st15 X15 tt 10 57 #[oI 2,oI 1,oI 0,oR b7,oI 0,oR b8,oI 0] [vR b8,vI 1,vR b7,vI 1,vI 1,vI 2] rfl ?_
  refine own_cS X15 hx hZ hown e15 (ow35 hw) (ow36 hw) (ow3 hw) (ow37 hw) (y:=mn9) (argsL:=[vI 2,vI 1,vI 1,vR b7,vI 1,vR b8]) (rest:=[]) (W:=0) hml.symm (hb hby d6_57) (lenOf pd9 rfl) rfl (by decide) (rm6a21 l Z a0 hw [] b7 b8 wd kd k7 h15 n0 (oT Z0 (Keep.of_wr W15).1) (PS0.wr W15) (PV1.other W15 ne_wd_b7) (PE9.wr W15) (PF10.other W15 (Or.inl ne_b8_b7)) (PF11.other W15 (Or.inl ne_b8_b7)) (PF12.other W15 (Or.inl ne_b8_b7)) V15s (PE14.wr W15) ne_wd_b8 n_b8) fun _ T16 _ X16 hQ16=>?_
  obtain ⟨b16a,k16b,b16c,rfl,N16q,K16,n_b16a,sg_b16a,n_b16c,sg_b16c,ne16_0,g16_0,g16_1,g16_2,g16_3,g16_4,g16_5,g16_6⟩:=hQ16
  have N16:=Fr.app N15 N16q
  have sz_b16a:=oT K15.1 sg_b16a
  have sz_b16c:=oT K15.1 sg_b16c
  have eK16:T16.heap = T16.heap:=rfl
  have KK16:Keep h0 T16.heap [b7,b8]:=Keep.trans K15 K16 (allS oI1 all0)
  obtain ⟨_,X16,N16⟩:=own_hide X16 N16
  refine oV 60 #[oI 2,oI 1,oI 0,oR b7,oI 0,oR b8,oI 0] [] ?_
  refine oG X16 tt 12 43 #[oI 2,oI 1,oI 0,oR b7,oI 0,oR b8,oI 1] [vI 1,vI 0,vR b7] rfl ?_
  obtain ⟨T17,h17,X17,e17,W17,V17,st17⟩:=own_stI X16 hx hZ eK16 (V15s.keep K16 (ninS ne_b7_b8 nin0)) (j:=(0:Int32)) ⟨by decide,by decide⟩ 0 rfl (Nat.le_of_ble_eq_true rfl) (g:=(mkF m 43 #[oI 2,oI 1,oI 0,oR b7,oI 0,oR b8,oI 1] [vI 1,vI 0,vR b7])) rfl rfl (hb hby d6_43)
  have K17:Keep h0 h17 [b7,b8]:=KK16.wr W17 oI0
  have V17s:Arv Z h17 b7 k7 .int 1 [vI 1] (vI 0):=V17
  have N17:=Fr.snoc X17 N16 n_b7
  refine oH st17 X17 tt 10 57 #[oI 2,oI 1,oI 0,oR b7,oI 0,oR b8,oI 1] [vR b8,vI 1,vR b7,vI 2,vI 1,vI 2] rfl ?_
  refine own_cS X17 hx hZ hown e17 (ow35 hw) (ow36 hw) (ow3 hw) (ow37 hw) (y:=mn9) (argsL:=[vI 2,vI 1,vI 2,vR b7,vI 1,vR b8]) (rest:=[]) (W:=0) hml.symm (hb hby d6_57) (lenOf pd9 rfl) rfl (by decide) (rm6a22 l Z a0 hw [] b7 b8 b16a k7 k16b b16c h17 n0 (oT (oT (oT Z0 (Keep.of_wr W15).1) K16.1) (Keep.of_wr W17).1) (((PE9.wr W15).keep K16).wr W17) (g16_0.other W17 (Or.inl ne_b8_b7)) (g16_1.other W17 (Or.inl ne_b8_b7)) (g16_2.other W17 (Or.inl ne_b8_b7)) V17s (((PE14.wr W15).keep K16).wr W17) (g16_3.other W17 (oM PV13.lt sz_b16a)) g16_4 (oL PE9.lt sz_b16a) (oM PE9.lt sz_b16a) n_b8 n_b16a) fun _ T18 _ X18 hQ18=>?_
  obtain ⟨b18a,rfl,N18q,K18,n_b18a,sg_b18a,g18_0,g18_1,g18_2,g18_3,g18_4,g18_5⟩:=hQ18
  have N18:=Fr.app N17 N18q
  have sz_b18a:=oT K17.1 sg_b18a
  have u19:=(oW g16_3.lt (Keep.of_wr W17).1)
  have u20:=(oW g16_5.lt (Keep.of_wr W17).1)
  have m21:h15.size≤h17.size:=(oT (oT (Nat.le_refl _) K16.1) (Keep.of_wr W17).1)
  have eK18:T18.heap = T18.heap:=rfl
  have KK18:Keep h0 T18.heap [b7,b8]:=Keep.trans K17 K18 (allS (Or.inr sz_b16a) (allS oI1 all0))
  obtain ⟨_,X18,N18⟩:=own_hide X18 N18
  refine oV 60 #[oI 2,oI 1,oI 0,oR b7,oI 0,oR b8,oI 1] [] ?_
  refine oG X18 tt 9 66 #[oI 2,oI 1,oI 0,oR b7,oI 0,oR b8,oI 2] [] rfl ?_
  refine own_ret X18 (v:=none) (fun _=>rfl) Bs (fun fs hr=>X18.returnOut hx Br (hb hby d6_66) hr) ?_ (by decide) (by decide)
  unfold Q6a20
  have G22:=(V17s.keep K18 (ninS (oL PV13.lt sz_b16a) (ninS ne_b7_b8 nin0)))
  have G23:=((g16_5.other W17 (oM PV13.lt sz_b16c)).keep K18 (ninS ne16_0 (ninS (oM PE9.lt sz_b16c) nin0)))
  rw [eK18]
  exact ⟨b16a,k16b,b16c,b18a,rfl,N18,KK18,n_b16a,sz_b16a,n_b16c,sz_b16c,n_b18a,sz_b18a,ne16_0,(oM u19 sg_b18a),(oM u20 sg_b18a),G22,g18_1,g18_2,g18_3,g18_0,g16_4,G23,((g16_6.wr W17).keep K18),g18_4,g18_5⟩
def Q12a25 (Z:State)  (h0:Heap)(n0:Nat)(v:Option Value)(h:Heap)(L:List Loc):Prop:=v = some (vI 2)∧Fr n0 L∧h = h0
set_option maxRecDepth 65536 in
set_option maxHeartbeats 40000000 in
theorem rm12a25 (l:Launch)(Z:State)(a0:Array Value)(hw:HW a0 Z)(ws:List Jvm.Cond)(b3:Addr)(h0:Heap)(n0:Nat)(Z0:n0≤h0.size)(PF12:oF2 Z h0 b3 (vI 2)) :
    own_Met l mn10 jdk_38_method_8_code 1 (some .int) ws (oRm 0 0 0 0) #[vR b3] Z h0 (Q12a25 Z  h0 n0):=by
  refine own_met (own:="java/util/ArrayList") rfl (plainFor_of_name pn_6) ?_
  intro p e s m below meth c s₁ hx hby hml hZ hown hnm X0 e0 Br Bs
  have N0:=Fr.nil n0
  have tt:=own_tt hx hby own_ok12
  refine oV 0 #[oR b3] [] ?_
  refine oX2 a0 [b3] [0] [fE12_48 0 (vI 2)] [] [] [] 1 [oR 0] [] [] 4 [oR 0] [vI 2] [] tt hZ hown X0 N0 e0 (oA (ow58 hw) trivial) trivial (oA PF12 trivial) trivial (Or.inl rfl) trivial rfl rfl (by decide +kernel) 2 (by decide +kernel) fun T4 h4 _ X4 N4 e4 K4 q4 M4=>?_
  have e4:=e4.trans (q4 rfl)
  refine oV 4 #[oR b3] [vI 2] ?_
  refine own_ret X4 (v:=some (vI 2)) (oN Br) Bs (fun fs hr=>retI X4 hx Br (hb hby d12_4) hr) ?_ (by decide) (by decide)
  unfold Q12a25
  exact ⟨rfl,N4,e4⟩
def Q15a28 (Z:State)  (h0:Heap)(n0:Nat)(v:Option Value)(h:Heap)(L:List Loc):Prop:=v = some (vI 0)∧Fr n0 L∧h = h0
set_option maxRecDepth 65536 in
set_option maxHeartbeats 40000000 in
theorem rm15a28 (l:Launch)(Z:State)(a0:Array Value)(hw:HW a0 Z)(ws:List Jvm.Cond)  (h0:Heap)(n0:Nat)(Z0:n0≤h0.size) :
    own_Met l mn12 jdk_41_method_11_code 3 (some .int) ws (oRm 0 0 0 0) #[vI 0,vI 2,.null] Z h0 (Q15a28 Z  h0 n0):=by
  refine own_met (own:="jdk/internal/util/Preconditions") rfl (plainFor_of_name pn_8) ?_
  intro p e s m below meth c s₁ hx hby hml hZ hown hnm X0 e0 Br Bs
  have N0:=Fr.nil n0
  have tt:=own_tt hx hby own_ok15
  refine oV 0 #[oI 0,oI 2,.val .null] [] ?_
  refine oG X0 tt 6 17 #[oI 0,oI 2,.val .null] [vI 0] rfl ?_
  refine own_ret X0 (v:=some (vI 0)) (oN Br) Bs (fun fs hr=>retI X0 hx Br (hb hby d15_17) hr) ?_ (by decide) (by decide)
  unfold Q15a28
  exact ⟨rfl,N0,e0⟩
def Q14a27 (Z:State)  (h0:Heap)(n0:Nat)(v:Option Value)(h:Heap)(L:List Loc):Prop:=v = some (vI 0)∧Fr n0 L∧h = h0
set_option maxRecDepth 65536 in
set_option maxHeartbeats 40000000 in
theorem rm14a27 (l:Launch)(Z:State)(a0:Array Value)(hw:HW a0 Z)(ws:List Jvm.Cond)  (h0:Heap)(n0:Nat)(Z0:n0≤h0.size) :
    own_Met l mn13 jdk_31_method_17_code 2 (some .int) ws (oRm 1 0 0 14) #[vI 0,vI 2] Z h0 (Q14a27 Z  h0 n0):=by
  refine own_met (own:="java/util/Objects") rfl (plainFor_of_name pn_7) ?_
  intro p e s m below meth c s₁ hx hby hml hZ hown hnm X0 e0 Br Bs
  have N0:=Fr.nil n0
  have tt:=own_tt hx hby own_ok14
  refine oV 0 #[oI 0,oI 2] [] ?_
  refine oG X0 tt 3 3 #[oI 0,oI 2] [.null,vI 2,vI 0] rfl ?_
  refine own_cS X0 hx hZ hown e0 (ow111 hw) (ow112 hw) (ow113 hw) (ow114 hw) (y:=mn12) (argsL:=[vI 0,vI 2,.null]) (rest:=[]) (W:=0) hml.symm (hb hby d14_3) (lenOf pd11 rfl) rfl (by decide) (rm15a28 l Z a0 hw []  h0 n0 Z0 ) fun _ T3 _ X3 hQ3=>?_
  obtain ⟨rfl,N3q,hh3⟩:=hQ3
  have N3:=Fr.app N0 N3q
  obtain ⟨_,X3,N3⟩:=own_hide X3 N3
  refine oV 6 #[oI 0,oI 2] [vI 0] ?_
  refine own_ret X3 (v:=some (vI 0)) (oN Br) Bs (fun fs hr=>retI X3 hx Br (hb hby d14_6) hr) ?_ (by decide) (by decide)
  unfold Q14a27
  exact ⟨rfl,N3,hh3⟩
def Q16a29 (Z:State)(b3c:Addr)(h0:Heap)(n0:Nat)(v:Option Value)(h:Heap)(L:List Loc):Prop:=v = some (vR b3c)∧Fr n0 L∧h = h0
set_option maxRecDepth 65536 in
set_option maxHeartbeats 40000000 in
theorem rm16a29 (l:Launch)(Z:State)(a0:Array Value)(hw:HW a0 Z)(ws:List Jvm.Cond)(b3 b4a:Addr)(k4b:ClassId)(b4c b4d:Addr)(h0:Heap)(n0:Nat)(Z0:n0≤h0.size)(PF11:oF1 Z h0 b3 (vR b4a))(PV15:Arv Z h0 b4a k4b (.object oOb) 10 [vR b4c,vR b4d,.null,.null,.null,.null,.null,.null,.null,.null] .null) :
    own_Met l mn14 jdk_38_method_18_code 2 (some (.object oOb)) ws (oRm 0 0 0 0) #[vR b3,vI 0] Z h0 (Q16a29 Z b4c h0 n0):=by
  refine own_met (own:="java/util/ArrayList") rfl (plainFor_of_name pn_6) ?_
  intro p e s m below meth c s₁ hx hby hml hZ hown hnm X0 e0 Br Bs
  have N0:=Fr.nil n0
  have tt:=own_tt hx hby own_ok16
  refine oV 0 #[oR b3,oI 0] [] ?_
  refine oX2 a0 [b3,b4a,b4c,b4d] [0,k4b,0,0] [fE16_9 0 (vR 1)] [] [] [1] 4 [oR 0,oI 0] [] [(1,(.object oOb),10,[vR 2,vR 3,.null,.null,.null,.null,.null,.null,.null,.null])] 6 [oR 0,oI 0] [vR 2] [] tt hZ hown X0 N0 e0 (oA (ow33 hw) trivial) trivial (oA PF11 trivial) (oA PV15 trivial) (Or.inl rfl) trivial rfl rfl (by decide +kernel) 4 (by decide +kernel) fun T5 h5 _ X5 N5 e5 K5 q5 M5=>?_
  have e5:=e5.trans (q5 rfl)
  refine oV 6 #[oR b3,oI 0] [vR b4c] ?_
  refine own_ret X5 (v:=some (vR b4c)) (oN Br) Bs (fun fs hr=>own_retA X5 hx Br rfl rfl (hb hby d16_6) hr) ?_ (by decide) (by decide)
  unfold Q16a29
  exact ⟨rfl,N5,e5⟩
def Q13a26 (Z:State)(b3c:Addr)(h0:Heap)(n0:Nat)(v:Option Value)(h:Heap)(L:List Loc):Prop:=v = some (vR b3c)∧Fr n0 L∧h = h0
set_option maxRecDepth 65536 in
set_option maxHeartbeats 40000000 in
theorem rm13a26 (l:Launch)(Z:State)(a0:Array Value)(hw:HW a0 Z)(ws:List Jvm.Cond)(b3 b4a:Addr)(k4b:ClassId)(b4c b4d:Addr)(h0:Heap)(n0:Nat)(Z0:n0≤h0.size)(PE9:Exa Z h0 b3 "java/util/ArrayList")(PF11:oF1 Z h0 b3 (vR b4a))(PF12:oF2 Z h0 b3 (vI 2))(PV15:Arv Z h0 b4a k4b (.object oOb) 10 [vR b4c,vR b4d,.null,.null,.null,.null,.null,.null,.null,.null] .null) :
    own_Met l mn15 jdk_38_method_20_code 2 (some (.object oOb)) ws (oRm 2 0 0 27) #[vR b3,vI 0] Z h0 (Q13a26 Z b4c h0 n0):=by
  refine own_met (own:="java/util/ArrayList") rfl (plainFor_of_name pn_6) ?_
  intro p e s m below meth c s₁ hx hby hml hZ hown hnm X0 e0 Br Bs
  have N0:=Fr.nil n0
  have tt:=own_tt hx hby own_ok13
  refine oV 0 #[oR b3,oI 0] [] ?_
  refine oX2 a0 [b3] [0] [fE13_48 0 (vI 2)] [] [] [] 1 [oR 0,oI 0] [] [] 5 [oR 0,oI 0] [vI 2,vI 0] [] tt hZ hown X0 N0 e0 (oA (ow58 hw) trivial) trivial (oA PF12 trivial) trivial (Or.inl rfl) trivial rfl rfl (by decide +kernel) 3 (by decide +kernel) fun T5 h5 _ X5 N5 e5 K5 q5 M5=>?_
  have e5:=e5.trans (q5 rfl)
  refine oV 5 #[oR b3,oI 0] [vI 2,vI 0] ?_
  refine own_cS X5 hx hZ hown e5 (ow107 hw) (ow108 hw) (ow109 hw) (ow110 hw) (y:=mn13) (argsL:=[vI 0,vI 2]) (rest:=[]) (W:=0) hml.symm (hb hby d13_5) (lenOf pd7 rfl) rfl (by decide) (rm14a27 l Z a0 hw []  h0 n0 Z0 ) fun _ T6 _ X6 hQ6=>?_
  obtain ⟨rfl,N6q,hh6⟩:=hQ6
  have N6:=Fr.app N5 N6q
  obtain ⟨_,X6,N6⟩:=own_hide X6 N6
  refine oV 8 #[oR b3,oI 0] [vI 0] ?_
  refine oG X6 tt 3 11 #[oR b3,oI 0] [vI 0,vR b3] rfl ?_
  refine own_cV X6 hx hZ hown hh6 (ow115 hw) (ow116 hw) (notFace_of_selects (args:=#[]) (mvT hZ (ow118 hw))) (ow118 hw) (ow117 hw) (ow13 hw) (ow119 hw) PE9 (y:=mn14) (z:=mn14) (argsL:=[vI 0]) (rest:=[]) (W:=0) hml.symm (hb hby d13_11) (lenOf pd5 rfl) rfl (by decide) (rm16a29 l Z a0 hw [] b3 b4a k4b b4c b4d h0 n0 Z0 PF11 PV15) fun _ T7 _ X7 hQ7=>?_
  obtain ⟨rfl,N7q,hh7⟩:=hQ7
  have N7:=Fr.app N6 N7q
  obtain ⟨_,X7,N7⟩:=own_hide X7 N7
  refine oV 14 #[oR b3,oI 0] [vR b4c] ?_
  refine own_ret X7 (v:=some (vR b4c)) (oN Br) Bs (fun fs hr=>own_retA X7 hx Br rfl rfl (hb hby d13_14) hr) ?_ (by decide) (by decide)
  unfold Q13a26
  exact ⟨rfl,N7,hh7⟩
def Q15a32 (Z:State)  (h0:Heap)(n0:Nat)(v:Option Value)(h:Heap)(L:List Loc):Prop:=v = some (vI 1)∧Fr n0 L∧h = h0
set_option maxRecDepth 65536 in
set_option maxHeartbeats 40000000 in
theorem rm15a32 (l:Launch)(Z:State)(a0:Array Value)(hw:HW a0 Z)(ws:List Jvm.Cond)  (h0:Heap)(n0:Nat)(Z0:n0≤h0.size) :
    own_Met l mn12 jdk_41_method_11_code 3 (some .int) ws (oRm 0 0 0 0) #[vI 1,vI 2,.null] Z h0 (Q15a32 Z  h0 n0):=by
  refine own_met (own:="jdk/internal/util/Preconditions") rfl (plainFor_of_name pn_8) ?_
  intro p e s m below meth c s₁ hx hby hml hZ hown hnm X0 e0 Br Bs
  have N0:=Fr.nil n0
  have tt:=own_tt hx hby own_ok15
  refine oV 0 #[oI 1,oI 2,.val .null] [] ?_
  refine oG X0 tt 6 17 #[oI 1,oI 2,.val .null] [vI 1] rfl ?_
  refine own_ret X0 (v:=some (vI 1)) (oN Br) Bs (fun fs hr=>retI X0 hx Br (hb hby d15_17) hr) ?_ (by decide) (by decide)
  unfold Q15a32
  exact ⟨rfl,N0,e0⟩
def Q14a31 (Z:State)  (h0:Heap)(n0:Nat)(v:Option Value)(h:Heap)(L:List Loc):Prop:=v = some (vI 1)∧Fr n0 L∧h = h0
set_option maxRecDepth 65536 in
set_option maxHeartbeats 40000000 in
theorem rm14a31 (l:Launch)(Z:State)(a0:Array Value)(hw:HW a0 Z)(ws:List Jvm.Cond)  (h0:Heap)(n0:Nat)(Z0:n0≤h0.size) :
    own_Met l mn13 jdk_31_method_17_code 2 (some .int) ws (oRm 1 0 0 14) #[vI 1,vI 2] Z h0 (Q14a31 Z  h0 n0):=by
  refine own_met (own:="java/util/Objects") rfl (plainFor_of_name pn_7) ?_
  intro p e s m below meth c s₁ hx hby hml hZ hown hnm X0 e0 Br Bs
  have N0:=Fr.nil n0
  have tt:=own_tt hx hby own_ok14
  refine oV 0 #[oI 1,oI 2] [] ?_
  refine oG X0 tt 3 3 #[oI 1,oI 2] [.null,vI 2,vI 1] rfl ?_
  refine own_cS X0 hx hZ hown e0 (ow111 hw) (ow112 hw) (ow113 hw) (ow114 hw) (y:=mn12) (argsL:=[vI 1,vI 2,.null]) (rest:=[]) (W:=0) hml.symm (hb hby d14_3) (lenOf pd11 rfl) rfl (by decide) (rm15a32 l Z a0 hw []  h0 n0 Z0 ) fun _ T3 _ X3 hQ3=>?_
  obtain ⟨rfl,N3q,hh3⟩:=hQ3
  have N3:=Fr.app N0 N3q
  obtain ⟨_,X3,N3⟩:=own_hide X3 N3
  refine oV 6 #[oI 1,oI 2] [vI 1] ?_
  refine own_ret X3 (v:=some (vI 1)) (oN Br) Bs (fun fs hr=>retI X3 hx Br (hb hby d14_6) hr) ?_ (by decide) (by decide)
  unfold Q14a31
  exact ⟨rfl,N3,hh3⟩
def Q16a33 (Z:State)(b3d:Addr)(h0:Heap)(n0:Nat)(v:Option Value)(h:Heap)(L:List Loc):Prop:=v = some (vR b3d)∧Fr n0 L∧h = h0
set_option maxRecDepth 65536 in
set_option maxHeartbeats 40000000 in
theorem rm16a33 (l:Launch)(Z:State)(a0:Array Value)(hw:HW a0 Z)(ws:List Jvm.Cond)(b3 b4a:Addr)(k4b:ClassId)(b4c b4d:Addr)(h0:Heap)(n0:Nat)(Z0:n0≤h0.size)(PF11:oF1 Z h0 b3 (vR b4a))(PV15:Arv Z h0 b4a k4b (.object oOb) 10 [vR b4c,vR b4d,.null,.null,.null,.null,.null,.null,.null,.null] .null) :
    own_Met l mn14 jdk_38_method_18_code 2 (some (.object oOb)) ws (oRm 0 0 0 0) #[vR b3,vI 1] Z h0 (Q16a33 Z b4d h0 n0):=by
  refine own_met (own:="java/util/ArrayList") rfl (plainFor_of_name pn_6) ?_
  intro p e s m below meth c s₁ hx hby hml hZ hown hnm X0 e0 Br Bs
  have N0:=Fr.nil n0
  have tt:=own_tt hx hby own_ok16
  refine oV 0 #[oR b3,oI 1] [] ?_
  refine oX2 a0 [b3,b4a,b4c,b4d] [0,k4b,0,0] [fE16_9 0 (vR 1)] [] [] [1] 4 [oR 0,oI 1] [] [(1,(.object oOb),10,[vR 2,vR 3,.null,.null,.null,.null,.null,.null,.null,.null])] 6 [oR 0,oI 1] [vR 3] [] tt hZ hown X0 N0 e0 (oA (ow33 hw) trivial) trivial (oA PF11 trivial) (oA PV15 trivial) (Or.inl rfl) trivial rfl rfl (by decide +kernel) 4 (by decide +kernel) fun T5 h5 _ X5 N5 e5 K5 q5 M5=>?_
  have e5:=e5.trans (q5 rfl)
  refine oV 6 #[oR b3,oI 1] [vR b4d] ?_
  refine own_ret X5 (v:=some (vR b4d)) (oN Br) Bs (fun fs hr=>own_retA X5 hx Br rfl rfl (hb hby d16_6) hr) ?_ (by decide) (by decide)
  unfold Q16a33
  exact ⟨rfl,N5,e5⟩
def Q13a30 (Z:State)(b3d:Addr)(h0:Heap)(n0:Nat)(v:Option Value)(h:Heap)(L:List Loc):Prop:=v = some (vR b3d)∧Fr n0 L∧h = h0
set_option maxRecDepth 65536 in
set_option maxHeartbeats 40000000 in
theorem rm13a30 (l:Launch)(Z:State)(a0:Array Value)(hw:HW a0 Z)(ws:List Jvm.Cond)(b3 b4a:Addr)(k4b:ClassId)(b4c b4d:Addr)(h0:Heap)(n0:Nat)(Z0:n0≤h0.size)(PE9:Exa Z h0 b3 "java/util/ArrayList")(PF11:oF1 Z h0 b3 (vR b4a))(PF12:oF2 Z h0 b3 (vI 2))(PV15:Arv Z h0 b4a k4b (.object oOb) 10 [vR b4c,vR b4d,.null,.null,.null,.null,.null,.null,.null,.null] .null) :
    own_Met l mn15 jdk_38_method_20_code 2 (some (.object oOb)) ws (oRm 2 0 0 27) #[vR b3,vI 1] Z h0 (Q13a30 Z b4d h0 n0):=by
  refine own_met (own:="java/util/ArrayList") rfl (plainFor_of_name pn_6) ?_
  intro p e s m below meth c s₁ hx hby hml hZ hown hnm X0 e0 Br Bs
  have N0:=Fr.nil n0
  have tt:=own_tt hx hby own_ok13
  refine oV 0 #[oR b3,oI 1] [] ?_
  refine oX2 a0 [b3] [0] [fE13_48 0 (vI 2)] [] [] [] 1 [oR 0,oI 1] [] [] 5 [oR 0,oI 1] [vI 2,vI 1] [] tt hZ hown X0 N0 e0 (oA (ow58 hw) trivial) trivial (oA PF12 trivial) trivial (Or.inl rfl) trivial rfl rfl (by decide +kernel) 3 (by decide +kernel) fun T5 h5 _ X5 N5 e5 K5 q5 M5=>?_
  have e5:=e5.trans (q5 rfl)
  refine oV 5 #[oR b3,oI 1] [vI 2,vI 1] ?_
  refine own_cS X5 hx hZ hown e5 (ow107 hw) (ow108 hw) (ow109 hw) (ow110 hw) (y:=mn13) (argsL:=[vI 1,vI 2]) (rest:=[]) (W:=0) hml.symm (hb hby d13_5) (lenOf pd7 rfl) rfl (by decide) (rm14a31 l Z a0 hw []  h0 n0 Z0 ) fun _ T6 _ X6 hQ6=>?_
  obtain ⟨rfl,N6q,hh6⟩:=hQ6
  have N6:=Fr.app N5 N6q
  obtain ⟨_,X6,N6⟩:=own_hide X6 N6
  refine oV 8 #[oR b3,oI 1] [vI 1] ?_
  refine oG X6 tt 3 11 #[oR b3,oI 1] [vI 1,vR b3] rfl ?_
  refine own_cV X6 hx hZ hown hh6 (ow115 hw) (ow116 hw) (notFace_of_selects (args:=#[]) (mvT hZ (ow118 hw))) (ow118 hw) (ow117 hw) (ow13 hw) (ow119 hw) PE9 (y:=mn14) (z:=mn14) (argsL:=[vI 1]) (rest:=[]) (W:=0) hml.symm (hb hby d13_11) (lenOf pd5 rfl) rfl (by decide) (rm16a33 l Z a0 hw [] b3 b4a k4b b4c b4d h0 n0 Z0 PF11 PV15) fun _ T7 _ X7 hQ7=>?_
  obtain ⟨rfl,N7q,hh7⟩:=hQ7
  have N7:=Fr.app N6 N7q
  obtain ⟨_,X7,N7⟩:=own_hide X7 N7
  refine oV 14 #[oR b3,oI 1] [vR b4d] ?_
  refine own_ret X7 (v:=some (vR b4d)) (oN Br) Bs (fun fs hr=>own_retA X7 hx Br rfl rfl (hb hby d13_14) hr) ?_ (by decide) (by decide)
  unfold Q13a30
  exact ⟨rfl,N7,hh7⟩
def own_t19:Nat→Option (Instr × Nat):=tB 33 (tB 13 (tB 6 (tB 1 (tB 0 (tP 0 (.lconst 0)) (tP 1 (.lstore_n 2))) (tB 2 (tP 2 (.aload_n 0)) (tB 3 (tQ 3 (.getfield 32) 3) (tP 6 (.iload_n 1))))) (tB 8 (tB 7 (tP 7 .iaload) (tQ 8 (.istore 4) 2)) (tB 10 (tP 10 (.iconst 0)) (tB 11 (tQ 11 (.istore 5) 2) (tQ 13 (.iload 4) 2))))) (tB 24 (tB 18 (tB 15 (tQ 15 (.ifCond .le 52) 3) (tP 18 (.lload_n 2))) (tB 19 (tQ 19 (.ldc2_w 86) 3) (tB 22 (tQ 22 (.bipush 64) 2) (tP 24 (.aload_n 0))))) (tB 29 (tB 25 (tQ 25 (.getfield 29) 3) (tB 28 (tP 28 (.iload_n 1)) (tP 29 .aaload))) (tB 30 (tQ 30 (.iload 5) 2) (tB 32 (tP 32 .iaload) (tP 33 .isub)))))) (tB 47 (tB 40 (tB 35 (tB 34 (tP 34 .lushr) (tP 35 (.aload_n 0))) (tB 36 (tQ 36 (.getfield 26) 3) (tB 39 (tP 39 (.iload_n 1)) (tP 40 .aaload)))) (tB 44 (tB 41 (tQ 41 (.iload 5) 2) (tB 43 (tP 43 .iaload) (tP 44 .lshl))) (tB 45 (tP 45 .lor) (tB 46 (tP 46 (.lstore_n 2)) (tQ 47 (.iload 4) 2))))) (tB 55 (tB 50 (tB 49 (tP 49 (.aload_n 0)) (tQ 50 (.getfield 29) 3)) (tB 53 (tP 53 (.iload_n 1)) (tB 54 (tP 54 .aaload) (tQ 55 (.iload 5) 2)))) (tB 59 (tB 57 (tP 57 .iaload) (tB 58 (tP 58 .isub) (tQ 59 (.istore 4) 2))) (tB 61 (tQ 61 (.iinc 5 1) 3) (tB 64 (tQ 64 (.goto (-51)) 3) (tP 67 (.lload_n 2)))))))
theorem own_ok19:∀ pc q,own_fetch 69 own_t19 pc = some q→decode prog_28_method_8_code pc = .ok q:=own_tab (by decide +kernel)
theorem d19_68:decode prog_28_method_8_code 68 = .ok (.lreturn,1):=by decide +kernel
def Q19a34 (Z:State)  (h0:Heap)(n0:Nat)(v:Option Value)(h:Heap)(L:List Loc):Prop:=v = some (.long (-4294967296:Int64))∧Fr n0 L∧h = h0
set_option maxRecDepth 65536 in
set_option maxHeartbeats 40000000 in
theorem rm19a34 (l:Launch)(Z:State)(a0:Array Value)(hw:HW a0 Z)(ws:List Jvm.Cond)(b6 b7 b8 b9:Addr)(k7:ClassId)(x7a x7b:Addr)(kc7 k8:ClassId)(x8a x8b:Addr)(kc8 k9:ClassId)(h0:Heap)(n0:Nat)(Z0:n0≤h0.size)(PF3:oF3 Z h0 b6 (vR b7))(PF4:oF4 Z h0 b6 (vR b8))(PF5:oF5 Z h0 b6 (vR b9))(PV20:Arv Z h0 b7 k7 (.array .int) 2 [vR x7a,vR x7b] .null)(PV22:Arv Z h0 x7a kc7 .int 2 [vI 32,vI 0] (vI 0))(PV26:Arv Z h0 b8 k8 (.array .int) 2 [vR x8a,vR x8b] .null)(PV28:Arv Z h0 x8a kc8 .int 2 [vI 32,vI 32] (vI 0))(PV32:Arv Z h0 b9 k9 .int 2 [vI 32,vI 32] (vI 0)) :
    own_Met l mn20 prog_28_method_8_code 6 (some .long) ws (oRm 0 0 0 0) #[vR b6,vI 0] Z h0 (Q19a34 Z  h0 n0):=by
  refine own_met (own:=oLy) rfl (plainFor_of_name pn_0) ?_
  intro p e s m below meth c s₁ hx hby hml hZ hown hnm X0 e0 Br Bs
  have N0:=Fr.nil n0
  have tt:=own_tt hx hby own_ok19
  refine oV 0 #[oR b6,oI 0,oU,oU,oU,oU] [] ?_
  refine oX2 a0 [b6,b7,b8,b9,x7a,x7b,x8a,x8b] [0,k7,k8,k9,kc7,0,kc8,0] [fE19_32 0 (vR 3),fE19_29 0 (vR 2),fE19_26 0 (vR 1)] [(86,(-1))] [] [3,2,6,1,4] 8 [oR 0,oI 0,oU,oU,oU,oU] [] [(3,.int,2,[vI 32,vI 32]),(2,(.array .int),2,[vR 6,vR 7]),(6,.int,2,[vI 32,vI 32]),(1,(.array .int),2,[vR 4,vR 5]),(4,.int,2,[vI 32,vI 0])] 68 [oR 0,oI 0,oQ (-4294967296),oS,oI 0,oI 1] [.long (-4294967296)] [] tt hZ hown X0 N0 e0 (oA (ow96 hw) (oA (ow94 hw) (oA (ow92 hw) trivial))) (oA (ow131 hw) trivial) (oA PF5 (oA PF4 (oA PF3 trivial))) (oA PV32 (oA PV26 (oA PV28 (oA PV20 (oA PV22 trivial))))) (Or.inl rfl) trivial rfl rfl (by decide +kernel) 45 (by decide +kernel) fun T10 h10 _ X10 N10 e10 K10 q10 M10=>?_
  have e10:=e10.trans (q10 rfl)
  refine oV 68 #[oR b6,oI 0,oQ (-4294967296:Int64),oS,oI 0,oI 1] [(.long (-4294967296:Int64))] ?_
  refine own_ret X10 (v:=some (.long (-4294967296:Int64))) (oN Br) Bs (fun fs hr=>own_retL X10 hx Br (hb hby d19_68) hr) ?_ (by decide) (by decide)
  unfold Q19a34
  exact ⟨rfl,N10,e10⟩
theorem pd4:parseMethodDescriptor "(I)J" = some ⟨[.int],some .long⟩:=by decide +kernel
def Q17a35 (Z:State)(j3:Int64)(h0:Heap)(n0:Nat)(v:Option Value)(h:Heap)(L:List Loc):Prop:=v = some (.long (kf (kf 0 j3 0 32) j3 32 32))∧Fr n0 L∧h = h0
set_option maxRecDepth 65536 in
set_option maxHeartbeats 40000000 in
theorem rm17a35 (l:Launch)(Z:State)(a0:Array Value)(hw:HW a0 Z)(ws:List Jvm.Cond)(b5:Addr)(j6:Int64)(b7 b8:Addr)(k7:ClassId)(x7a x7b:Addr)(kc7 k8:ClassId)(x8a x8b:Addr)(kc8:ClassId)(h0:Heap)(n0:Nat)(Z0:n0≤h0.size)(PF3:oF3 Z h0 b5 (vR b7))(PF4:oF4 Z h0 b5 (vR b8))(PV20:Arv Z h0 b7 k7 (.array .int) 2 [vR x7a,vR x7b] .null)(PV24:Arv Z h0 x7b kc7 .int 2 [vI 0,vI 32] (vI 0))(PV26:Arv Z h0 b8 k8 (.array .int) 2 [vR x8a,vR x8b] .null)(PV30:Arv Z h0 x8b kc8 .int 2 [vI 32,vI 32] (vI 0)) :
    own_Met l mn18 prog_28_method_6_code 9 (some .long) ws (oRm 0 0 0 0) #[vR b5,vI 1,(.long j6)] Z h0 (Q17a35 Z j6 h0 n0):=by
  refine own_met (own:=oLy) rfl (plainFor_of_name pn_0) ?_
  intro p e s m below meth c s₁ hx hby hml hZ hown hnm X0 e0 Br Bs
  have N0:=Fr.nil n0
  have tt:=own_tt hx hby own_ok17
  refine oV 0 #[oR b5,oI 1,oQ j6,oS,oU,oU,oU,oU,oU] [] ?_
  refine oX3 a0 [b5,b7,b8,x7a,x7b,x8a,x8b] [0,k7,k8,0,kc7,0,kc8] [fE17_29 0 (vR 2),fE17_26 0 (vR 1)] [(86,(-1))] [] [2,6,1,4] 7 [oR 0,oI 1,oQ j6,oS,oU,oU,oU,oU,oU] [] [(2,(.array .int),2,[vR 5,vR 6]),(6,.int,2,[vI 32,vI 32]),(1,(.array .int),2,[vR 3,vR 4]),(4,.int,2,[vI 0,vI 32])] 73 [oR 0,oI 1,oQ j6,oS,oQ (kf (kf 0 j6 0 32) j6 32 32),oS,oI 2,oQ (kg j6 32 32),oS] [.long (kf (kf 0 j6 0 32) j6 32 32)] [] tt hZ hown X0 N0 e0 (oA (ow94 hw) (oA (ow92 hw) trivial)) (oA (ow131 hw) trivial) (oA PF4 (oA PF3 trivial)) (oA PV26 (oA PV30 (oA PV20 (oA PV24 trivial)))) (Or.inl rfl) trivial rfl rfl (by decide +kernel) _ (oC 11 18 [oR 0,oI 1,oQ j6,oS,oQ 0,oS,oI 0,oU,oU] [] rfl (oC 10 34 [oR 0,oI 1,oQ j6,oS,oQ 0,oS,oI 0,oU,oU] [vI 64,.long (-1),.long (kh j6 0)] rfl (oC 10 48 [oR 0,oI 1,oQ j6,oS,oQ 0,oS,oI 0,oQ (kg j6 0 32),oS] [] rfl (oC 11 65 [oR 0,oI 1,oQ j6,oS,oQ (kf 0 j6 0 32),oS,oI 0,oQ (kg j6 0 32),oS] [] rfl (oC 9 18 [oR 0,oI 1,oQ j6,oS,oQ (kf 0 j6 0 32),oS,oI 1,oQ (kg j6 0 32),oS] [] rfl (oC 10 34 [oR 0,oI 1,oQ j6,oS,oQ (kf 0 j6 0 32),oS,oI 1,oQ (kg j6 0 32),oS] [vI 64,.long (-1),.long (kh j6 32)] rfl (oC 10 48 [oR 0,oI 1,oQ j6,oS,oQ (kf 0 j6 0 32),oS,oI 1,oQ (kg j6 32 32),oS] [] rfl (oC 11 65 [oR 0,oI 1,oQ j6,oS,oQ (kf (kf 0 j6 0 32) j6 32 32),oS,oI 1,oQ (kg j6 32 32),oS] [] (n2:=10) rfl rfl)))))))) fun T9 h9 _ X9 N9 e9 K9 q9 M9=>?_
  have e9:=e9.trans (q9 rfl)
  refine oV 73 #[oR b5,oI 1,oQ j6,oS,oQ (kf (kf 0 j6 0 32) j6 32 32),oS,oI 2,oQ (kg j6 32 32),oS] [(.long (kf (kf 0 j6 0 32) j6 32 32))] ?_
  refine own_ret X9 (v:=some (.long (kf (kf 0 j6 0 32) j6 32 32))) (oN Br) Bs (fun fs hr=>own_retL X9 hx Br (hb hby d17_73) hr) ?_ (by decide) (by decide)
  unfold Q17a35
  exact ⟨rfl,N9,e9⟩
theorem d1_405:decode prog_28_method_1_code 405 = .ok (.invokevirtual 47,3):=by decide +kernel
theorem d1_408:decode prog_28_method_1_code 408 = .ok (.invokevirtual 51,3):=by decide +kernel
theorem d1_411:decode prog_28_method_1_code 411 = .ok (.lastore,1):=by decide +kernel
def Q1a19 (Z:State)(b3:Addr)(h0:Heap)(n0:Nat)(v:Option Value)(h:Heap)(L:List Loc):Prop:=∃ (b4:Addr)(k4:ClassId)(x4a:Addr)(kc4:ClassId)(x4b b5:Addr)(k5:ClassId)(x5a:Addr)(kc5:ClassId)(x5b:Addr),v = none∧Fr n0 L∧Keep h0 h [b3]∧n0≤b4∧h0.size≤b4∧n0≤x4a∧h0.size≤x4a∧n0≤x4b∧h0.size≤x4b∧n0≤b5∧h0.size≤b5∧n0≤x5a∧h0.size≤x5a∧n0≤x5b∧h0.size≤x5b∧x4a≠b4∧x4b≠b4∧x4b≠x4a∧b5≠b4∧b5≠x4a∧b5≠x4b∧x5a≠b4∧x5a≠x4a∧x5a≠x4b∧x5a≠b5∧x5b≠b4∧x5b≠x4a∧x5b≠x4b∧x5b≠b5∧x5b≠x5a∧oF3 Z h b3 (vR b4)∧oF4 Z h b3 (vR b5)∧Arv Z h b4 k4 (.array .int) 2 [vR x4a,vR x4b] .null∧OvrA Z k4 .int "[I"∧Exa Z h b4 "[[I"∧Arv Z h x4a kc4 .int 2 [vI 32,vI 0] (vI 0)∧Exa Z h x4a "[I"∧Arv Z h x4b kc4 .int 2 [vI 0,vI 32] (vI 0)∧Exa Z h x4b "[I"∧Arv Z h b5 k5 (.array .int) 2 [vR x5a,vR x5b] .null∧OvrA Z k5 .int "[I"∧Exa Z h b5 "[[I"∧Arv Z h x5a kc5 .int 2 [vI 32,vI 32] (vI 0)∧Exa Z h x5a "[I"∧Arv Z h x5b kc5 .int 2 [vI 32,vI 32] (vI 0)∧Exa Z h x5b "[I"
set_option maxRecDepth 65536 in
set_option maxHeartbeats 40000000 in
theorem rm1a19 (l:Launch)(Z:State)(a0:Array Value)(hw:HW a0 Z)(ws:List Jvm.Cond)(b10 wd:Addr)(kd:ClassId)(h0:Heap)(n0:Nat)(Z0:n0≤h0.size)(PS0:Sta Z h0 "java/util/ArrayList" "DEFAULTCAPACITY_EMPTY_ELEMENTDATA" "[Ljava/lang/Object;" (vR wd))(PV1:Arv Z h0 wd kd (.object oOb) 0 [] .null)(PE2:Exa Z h0 b10 oLy)(PF3:oF3 Z h0 b10 .null)(PF4:oF4 Z h0 b10 .null)(PF5:oF5 Z h0 b10 .null)(PF6:oF6 Z h0 b10 .null)(n_b10:n0≤b10) :
    own_Met l mn17 prog_28_method_1_code 13 none ws (oRm 7 20 44 105) #[vR b10,vI 1,vI 2] Z h0 (Q1a19 Z b10 h0 n0):=by
  refine own_met (own:=oLy) rfl (plainFor_of_name pn_0) ?_
  intro p e s m below meth c s₁ hx hby hml hZ hown hnm X0 e0 Br Bs
  have N0:=Fr.nil n0
  have tt:=own_tt hx hby own_ok1
  refine oV 0 #[oR b10,oI 1,oI 2,oU,oU,oU,oU,oU,oU,oU,oU,oU,oU] [] ?_
  refine oG X0 tt 1 1 #[oR b10,oI 1,oI 2,oU,oU,oU,oU,oU,oU,oU,oU,oU,oU] [vR b10] rfl ?_
  obtain ⟨T11,X11,e11,st11⟩:=initO X0 hx hZ hown (ow7 hw) (ow8 hw) (ow9 hw) e0 (g:=(mkF m 1 #[oR b10,oI 1,oI 2,oU,oU,oU,oU,oU,oU,oU,oU,oU,oU] [vR b10])) rfl hml.symm rfl (hb hby d1_1) (by decide) (W:=0) (oZ rfl) (by decide)
  refine oH st11 X11 tt 3 7 #[oR b10,oI 1,oI 2,oU,oU,oU,oU,oU,oU,oU,oU,oU,oU] [vI 3] rfl ?_
  obtain ⟨T12,h12,k12,X12,e12,E12,A12,EA12,st12⟩:=newPE (aty:=.int) X11 hx hZ (ow10 hw) e11 (g:=(mkF m 7 #[oR b10,oI 1,oI 2,oU,oU,oU,oU,oU,oU,oU,oU,oU,oU] [vI 3])) rfl (hb hby d1_7) rfl (by decide) (cap:=3) (by decide) (by decide) (by decide) (by decide) (ad:="[I") (by decide +kernel)
  obtain ⟨b12,g_b12⟩:∃ z,z = h0.size:=⟨_,rfl⟩
  have sg_b12:h0.size≤b12:=Nat.le_of_eq g_b12.symm
  rw [← g_b12] at A12 EA12 st12
  have n_b12:=oT Z0 sg_b12
  have sz_b12:=oT (Keep.refl h0 [b10]).1 sg_b12
  have K12:Keep h0 h12 [b10]:=(Keep.refl h0 [b10]).ext E12
  have V_b12:Arv Z h12 b12 k12 .int 3 [vI 0,vI 0,vI 0] (vI 0):=(Arv.new A12 (by decide)).pad (pad_rep [] (vI 0) 3)
  refine oJ 9 #[oR b10,oI 1,oI 2,oU,oU,oU,oU,oU,oU,oU,oU,oU,oU] [vR b12] st12 ?_
  have l13:b10 < b12:=oW PE2.lt sz_b12
  refine oX2 a0 [b10,b12] [0,k12] [] [] [1] [1] 2 [oR 0,oI 1,oI 2,oU,oU,oU,oU,oU,oU,oU,oU,oU,oU] [vR 1] [(1,.int,3,[vI 0,vI 0,vI 0])] 55 [oR 0,oI 1,oI 2,oR 1,oI 2,oU,oU,oU,oU,oU,oU,oU,oU] [] [(1,[vI 0,vI 32,vI 64])] tt hZ hown X12 N0 e12 trivial trivial trivial (oA V_b12 trivial) (Or.inr (oA l13 trivial)) (oA n_b12 trivial) rfl rfl (by decide +kernel) 54 (by decide +kernel) fun T14 h14 _ X14 N14 e14 K14 q14 M14=>?_
  have Kq14:Keep h12 h14 [b12]:=K14
  have KK14:Keep h0 h14 [b10]:=Keep.trans K12 Kq14 (allS (Or.inr sz_b12) all0)
  obtain ⟨v14_0,-⟩:=M14
  have V14_0:Arv Z h14 b12 k12 .int 3 [vI 0,vI 32,vI 64] (vI 0):=v14_0
  refine oV 55 #[oR b10,oI 1,oI 2,oR b12,oI 2,oU,oU,oU,oU,oU,oU,oU,oU] [] ?_
  obtain ⟨T15,h15,X15,e15,E15,A15,D15,-,st15⟩:=newO X14 hx hZ hown (ow11 hw) (ow12 hw) (ow13 hw) e14 (g:=(mkF m 55 #[oR b10,oI 1,oI 2,oR b12,oI 2,oU,oU,oU,oU,oU,oU,oU,oU] [])) rfl (hb hby d1_55) (by decide) (by decide)
  obtain ⟨b15,g_b15⟩:∃ z,z = h14.size:=⟨_,rfl⟩
  have sg_b15:h14.size≤b15:=Nat.le_of_eq g_b15.symm
  rw [← g_b15] at A15 D15 st15
  have n_b15:=oT (oT (oT Z0 E12.1) Kq14.1) sg_b15
  have sz_b15:=oT KK14.1 sg_b15
  have u16:=(oW V_b12.lt Kq14.1)
  have m17:h0.size≤h14.size:=(oT (oT (Nat.le_refl _) E12.1) Kq14.1)
  have K15:Keep h0 h15 [b10]:=KK14.ext E15
  have F_modCount_b15:oF0 Z h15 b15 (vI 0):=D15 (Or.inl (ow31 hw)) (ty:=.int) (by decide)
  have F_elementData_b15:oF1 Z h15 b15 .null:=D15 (Or.inl (ow34 hw)) (ty:=(.array (.object oOb))) (by decide)
  have F_size_b15:oF2 Z h15 b15 (vI 0):=D15 (Or.inl (ow59 hw)) (ty:=.int) (by decide)
  refine oH st15 X15 tt 1 59 #[oR b10,oI 1,oI 2,oR b12,oI 2,oU,oU,oU,oU,oU,oU,oU,oU] [vR b15,vR b15] rfl ?_
  have G18:=((own_sta_keep (PS0.ext E12) Kq14 (own_wsV V_b12 own_ws0)).ext E15)
  refine own_cN X15 hx hZ hown e15 rfl (ow14 hw) (ow15 hw) (ow13 hw) (ow16 hw) (y:=mn2) (b:=b15) (argsL:=[]) (rest:=[vR b15]) (W:=1) hml.symm (hb hby d1_59) (lenOf pd2 rfl) rfl (by decide) (rm3a2 l Z a0 hw [] b15 wd h15 n0 (oT (oT (oT Z0 E12.1) Kq14.1) E15.1) G18 A15 F_modCount_b15 F_elementData_b15 F_size_b15 n_b15) fun _ T19 _ X19 hQ19=>?_
  obtain ⟨rfl,N19q,K19,g19_0,g19_1,g19_2⟩:=hQ19
  have N19:=Fr.app N14 N19q
  have eK19:T19.heap = T19.heap:=rfl
  have KK19:Keep h0 T19.heap [b10]:=Keep.trans K15 K19 (allS (Or.inr sz_b15) all0)
  obtain ⟨_,X19,N19⟩:=own_hide X19 N19
  refine oV 62 #[oR b10,oI 1,oI 2,oR b12,oI 2,oU,oU,oU,oU,oU,oU,oU,oU] [vR b15] ?_
  refine oG X19 tt 9 72 #[oR b10,oI 1,oI 2,oR b12,oR b15,oU,oU,oU,oU,oU,oU,oU,oU] [vI 1,vI 0,vI 1,vI 2] rfl ?_
  obtain ⟨T20,h20,k20,X20,e20,E20,A20,EA20,st20⟩:=newPE (aty:=.int) X19 hx hZ (ow10 hw) eK19 (g:=(mkF m 72 #[oR b10,oI 1,oI 2,oR b12,oR b15,oU,oU,oU,oU,oU,oU,oU,oU] [vI 1,vI 0,vI 1,vI 2])) rfl (hb hby d1_72) rfl (by decide) (cap:=1) (by decide) (by decide) (by decide) (by decide) (ad:="[I") (by decide +kernel)
  obtain ⟨b20,g_b20⟩:∃ z,z = T19.heap.size:=⟨_,rfl⟩
  have sg_b20:T19.heap.size≤b20:=Nat.le_of_eq g_b20.symm
  rw [← g_b20] at A20 EA20 st20
  have n_b20:=oT (oT (oT (oT (oT Z0 E12.1) Kq14.1) E15.1) K19.1) sg_b20
  have sz_b20:=oT KK19.1 sg_b20
  have u21:=(oW A15.lt K19.1)
  have m22:h14.size≤T19.heap.size:=(oT (oT (Nat.le_refl _) E15.1) K19.1)
  have K20:Keep h0 h20 [b10]:=KK19.ext E20
  have V_b20:Arv Z h20 b20 k20 .int 1 [vI 0] (vI 0):=(Arv.new A20 (by decide)).pad (pad_rep [] (vI 0) 1)
  refine oH st20 X20 tt 2 77 #[oR b10,oI 1,oI 2,oR b12,oR b15,oU,oU,oU,oU,oU,oU,oU,oU] [vR b15,vI 0,vR b20,vI 0,vI 1,vI 2] rfl ?_
  have G23:=(((((PV1.ext E12).keep Kq14 (ninS (oL PV1.lt sz_b12) nin0)).ext E15).keep K19 (ninS (oL PV1.lt sz_b15) nin0)).ext E20)
  refine own_cS X20 hx hZ hown e20 (ow35 hw) (ow36 hw) (ow3 hw) (ow37 hw) (y:=mn9) (argsL:=[vI 2,vI 1,vI 0,vR b20,vI 0,vR b15]) (rest:=[]) (W:=0) hml.symm (hb hby d1_77) (lenOf pd9 rfl) rfl (by decide) (rm6a20 l Z a0 hw [] b20 b15 wd kd k20 h20 n0 (oT (oT (oT (oT (oT Z0 E12.1) Kq14.1) E15.1) K19.1) E20.1) ((own_sta_keep G18 K19 (own_wsE A15 own_ws0)).ext E20) G23 ((A15.keep K19).ext E20) (g19_0.ext E20) (g19_1.ext E20) (g19_2.ext E20) V_b20 EA20 (oL PV1.lt sz_b15) (oL PV1.lt sz_b20) (oL u21 sg_b20) (oM u21 sg_b20) n_b20 n_b15) fun _ T24 _ X24 hQ24=>?_
  obtain ⟨b24a,k24b,b24c,b24d,rfl,N24q,K24,n_b24a,sg_b24a,n_b24c,sg_b24c,n_b24d,sg_b24d,ne24_0,ne24_1,ne24_2,g24_0,g24_1,g24_2,g24_3,g24_4,g24_5,g24_6,g24_7,g24_8,g24_9⟩:=hQ24
  have N24:=Fr.app N19 N24q
  have sz_b24a:=oT K20.1 sg_b24a
  have sz_b24c:=oT K20.1 sg_b24c
  have sz_b24d:=oT K20.1 sg_b24d
  have u25:b20 < h20.size:=V_b20.lt
  have m26:T19.heap.size≤h20.size:=(oT (Nat.le_refl _) E20.1)
  have eK24:T24.heap = T24.heap:=rfl
  have KK24:Keep h0 T24.heap [b10]:=Keep.trans K20 K24 (allS (Or.inr sz_b20) (allS (Or.inr sz_b15) all0))
  obtain ⟨_,X24,N24⟩:=own_hide X24 N24
  refine oV 80 #[oR b10,oI 1,oI 2,oR b12,oR b15,oU,oU,oU,oU,oU,oU,oU,oU] [] ?_
  refine oG X24 tt 2 83 #[oR b10,oI 1,oI 2,oR b12,oR b15,oU,oU,oU,oU,oU,oU,oU,oU] [vR b15,vR b10] rfl ?_
  have Zs27:n0≤T24.heap.size:=(oT (oT (oT (oT (oT (oT Z0 E12.1) Kq14.1) E15.1) K19.1) E20.1) K24.1)
  refine own_cI X24 hx hZ hown eK24 (ow82 hw) (ow83 hw) (mvT hZ (ow84 hw)) (ow85 hw) (ow86 hw) (ow87 hw) (ow88 hw) (ow54 hw) (ow13 hw) (ow89 hw) (((A15.keep K19).ext E20).keep K24) (y:=mn11) (z:=mn10) (argsL:=[]) (rest:=[vR b10]) (W:=1) hml.symm (hb hby d1_83) (lenOf pd0 rfl) rfl (by decide) (rm12a25 l Z a0 hw [] b15 T24.heap n0 Zs27 g24_3) fun _ T28 _ X28 hQ28=>?_
  obtain ⟨rfl,N28q,hh28⟩:=hQ28
  have N28:=Fr.app N24 N28q
  obtain ⟨_,X28,N28⟩:=own_hide X28 N28
  refine oV 88 #[oR b10,oI 1,oI 2,oR b12,oR b15,oU,oU,oU,oU,oU,oU,oU,oU] [vI 2,vR b10] ?_
  refine oG X28 tt 1 89 #[oR b10,oI 1,oI 2,oR b12,oR b15,oU,oU,oU,oU,oU,oU,oU,oU] [vI 2,vI 2,vR b10] rfl ?_
  obtain ⟨T29,h29,k29,kc29,X29,e29,E29,A29,O29,EA29,I29,st29⟩:=gridM X28 hx hZ (C:="[I") (ad:="[[I") (ty:=.int) hown (by decide +kernel) (by decide +kernel) (ow90 hw) (ow91 hw) (ow10 hw) hh28 (g:=(mkF m 89 #[oR b10,oI 1,oI 2,oR b12,oR b15,oU,oU,oU,oU,oU,oU,oU,oU] [vI 2,vI 2,vR b10])) rfl (hb hby d1_89) rfl (by decide) (by decide) (N:=2) (by decide) rfl (cap:=2) (by decide) (by decide) (by decide) rfl rfl (by decide) (by decide)
  obtain ⟨b29,g_b29⟩:∃ z,z = T24.heap.size:=⟨_,rfl⟩
  obtain ⟨x29a,g_x29a⟩:∃ z,z = T24.heap.size + 1 + 0:=⟨_,rfl⟩
  obtain ⟨x29b,g_x29b⟩:∃ z,z = T24.heap.size + 1 + 1:=⟨_,rfl⟩
  have sg_b29:T24.heap.size≤b29:=by omega
  have n_b29:=oT Zs27 sg_b29
  have sz_b29:=oT KK24.1 sg_b29
  have sg_x29a:T24.heap.size≤x29a:=by omega
  have n_x29a:=oT Zs27 sg_x29a
  have sz_x29a:=oT KK24.1 sg_x29a
  have sg_x29b:T24.heap.size≤x29b:=by omega
  have n_x29b:=oT Zs27 sg_x29b
  have sz_x29b:=oT KK24.1 sg_x29b
  have u30:b24a < T24.heap.size:=g24_4.lt
  have u31:b24c < T24.heap.size:=g24_6.lt
  have u32:b24d < T24.heap.size:=g24_8.lt
  have m33:h20.size≤T24.heap.size:=(oT (Nat.le_refl _) K24.1)
  have nn_x29a_b29:x29a≠b29:=by omega
  have nn_x29b_b29:x29b≠b29:=by omega
  have nn_x29b_x29a:x29b≠x29a:=by omega
  have K29:Keep h0 h29 [b10]:=KK24.ext E29
  have V_b29:Arv Z h29 b29 k29 (.array .int) 2 [vR x29a,vR x29b] .null:=by rw [g_b29,g_x29a,g_x29b]; exact A29
  have EE_b29:Exa Z h29 b29 "[[I":=by rw [g_b29]; exact EA29
  have V_x29a:Arv Z h29 x29a kc29 .int 2 [vI 0,vI 0] (vI 0):=by rw [g_x29a]; exact (Arv.new (I29 0 _ rfl).1 (by decide)).pad (pad_rep [] (vI 0) 2)
  have EE_x29a:Exa Z h29 x29a "[I":=by rw [g_x29a]; exact (I29 0 _ rfl).2
  have V_x29b:Arv Z h29 x29b kc29 .int 2 [vI 0,vI 0] (vI 0):=by rw [g_x29b]; exact (Arv.new (I29 1 _ rfl).1 (by decide)).pad (pad_rep [] (vI 0) 2)
  have EE_x29b:Exa Z h29 x29b "[I":=by rw [g_x29b]; exact (I29 1 _ rfl).2
  rw [← g_b29] at st29
  refine oJ 93 #[oR b10,oI 1,oI 2,oR b12,oR b15,oU,oU,oU,oU,oU,oU,oU,oU] [vR b29,vR b10] st29 ?_
  have G34:=(((((((PE2.ext E12).keep Kq14).ext E15).keep K19).ext E20).keep K24).ext E29)
  have K35:Keep _ h29 [b12,b15,b20]:=(Keep.trans ((Keep.trans ((Keep.trans ((Keep.refl _ _).ext E12) Kq14 (allS oI0 all0)).ext E15) K19 (allS oI1 all0)).ext E20) K24 (allS oI2 (allS oI1 all0))).ext E29
  have G36:=(PF3.keep K35 (ninS (oL PE2.lt sz_b12) (ninS (oL PE2.lt sz_b15) (ninS (oL PE2.lt sz_b20) nin0))))
  obtain ⟨T37,h37,X37,e37,W37,st37⟩:=putF X29 hx hZ hown (host:="") (Or.inl (ow92 hw)) Via.refl e29 G36 G34 (Or.inr ⟨(ow93 hw),rfl,hnm⟩) (ow2 hw) (ty:=(.array (.array .int))) (by decide) rfl rfl (g:=(mkF m 93 #[oR b10,oI 1,oI 2,oR b12,oR b15,oU,oU,oU,oU,oU,oU,oU,oU] [vR b29,vR b10])) rfl rfl (hb hby d1_93)
  have Fw37:=Fld.same W37 G36
  have K37:Keep h0 h37 [b10]:=K29.wr W37 oI0
  have N37:=Fr.snoc X37 N28 n_b10
  refine oH st37 X37 tt 2 99 #[oR b10,oI 1,oI 2,oR b12,oR b15,oU,oU,oU,oU,oU,oU,oU,oU] [vR b15,vR b10] rfl ?_
  refine own_cI X37 hx hZ hown e37 (ow82 hw) (ow83 hw) (mvT hZ (ow84 hw)) (ow85 hw) (ow86 hw) (ow87 hw) (ow88 hw) (ow54 hw) (ow13 hw) (ow89 hw) (((((A15.keep K19).ext E20).keep K24).ext E29).wr W37) (y:=mn11) (z:=mn10) (argsL:=[]) (rest:=[vR b10]) (W:=1) hml.symm (hb hby d1_99) (lenOf pd0 rfl) rfl (by decide) (rm12a25 l Z a0 hw [] b15 h37 n0 (oT (oT Zs27 E29.1) (Keep.of_wr W37).1) ((g24_3.ext E29).other W37 (Or.inl (oM PE2.lt sz_b15)))) fun _ T38 _ X38 hQ38=>?_
  obtain ⟨rfl,N38q,hh38⟩:=hQ38
  have N38:=Fr.app N37 N38q
  obtain ⟨_,X38,N38⟩:=own_hide X38 N38
  refine oV 104 #[oR b10,oI 1,oI 2,oR b12,oR b15,oU,oU,oU,oU,oU,oU,oU,oU] [vI 2,vR b10] ?_
  refine oG X38 tt 1 105 #[oR b10,oI 1,oI 2,oR b12,oR b15,oU,oU,oU,oU,oU,oU,oU,oU] [vI 2,vI 2,vR b10] rfl ?_
  obtain ⟨T39,h39,k39,kc39,X39,e39,E39,A39,O39,EA39,I39,st39⟩:=gridM X38 hx hZ (C:="[I") (ad:="[[I") (ty:=.int) hown (by decide +kernel) (by decide +kernel) (ow90 hw) (ow91 hw) (ow10 hw) hh38 (g:=(mkF m 105 #[oR b10,oI 1,oI 2,oR b12,oR b15,oU,oU,oU,oU,oU,oU,oU,oU] [vI 2,vI 2,vR b10])) rfl (hb hby d1_105) rfl (by decide) (by decide) (N:=2) (by decide) rfl (cap:=2) (by decide) (by decide) (by decide) rfl rfl (by decide) (by decide)
  obtain ⟨b39,g_b39⟩:∃ z,z = h37.size:=⟨_,rfl⟩
  obtain ⟨x39a,g_x39a⟩:∃ z,z = h37.size + 1 + 0:=⟨_,rfl⟩
  obtain ⟨x39b,g_x39b⟩:∃ z,z = h37.size + 1 + 1:=⟨_,rfl⟩
  have sg_b39:h37.size≤b39:=by omega
  have n_b39:=oT (oT (oT Zs27 E29.1) (Keep.of_wr W37).1) sg_b39
  have sz_b39:=oT K37.1 sg_b39
  have sg_x39a:h37.size≤x39a:=by omega
  have n_x39a:=oT (oT (oT Zs27 E29.1) (Keep.of_wr W37).1) sg_x39a
  have sz_x39a:=oT K37.1 sg_x39a
  have sg_x39b:h37.size≤x39b:=by omega
  have n_x39b:=oT (oT (oT Zs27 E29.1) (Keep.of_wr W37).1) sg_x39b
  have sz_x39b:=oT K37.1 sg_x39b
  have u40:=(oW V_b29.lt (Keep.of_wr W37).1)
  have u41:=(oW V_x29a.lt (Keep.of_wr W37).1)
  have u42:=(oW V_x29b.lt (Keep.of_wr W37).1)
  have m43:T24.heap.size≤h37.size:=(oT (oT (Nat.le_refl _) E29.1) (Keep.of_wr W37).1)
  have nn_x39a_b39:x39a≠b39:=by omega
  have nn_x39b_b39:x39b≠b39:=by omega
  have nn_x39b_x39a:x39b≠x39a:=by omega
  have K39:Keep h0 h39 [b10]:=K37.ext E39
  have V_b39:Arv Z h39 b39 k39 (.array .int) 2 [vR x39a,vR x39b] .null:=by rw [g_b39,g_x39a,g_x39b]; exact A39
  have EE_b39:Exa Z h39 b39 "[[I":=by rw [g_b39]; exact EA39
  have V_x39a:Arv Z h39 x39a kc39 .int 2 [vI 0,vI 0] (vI 0):=by rw [g_x39a]; exact (Arv.new (I39 0 _ rfl).1 (by decide)).pad (pad_rep [] (vI 0) 2)
  have EE_x39a:Exa Z h39 x39a "[I":=by rw [g_x39a]; exact (I39 0 _ rfl).2
  have V_x39b:Arv Z h39 x39b kc39 .int 2 [vI 0,vI 0] (vI 0):=by rw [g_x39b]; exact (Arv.new (I39 1 _ rfl).1 (by decide)).pad (pad_rep [] (vI 0) 2)
  have EE_x39b:Exa Z h39 x39b "[I":=by rw [g_x39b]; exact (I39 1 _ rfl).2
  rw [← g_b39] at st39
  refine oJ 109 #[oR b10,oI 1,oI 2,oR b12,oR b15,oU,oU,oU,oU,oU,oU,oU,oU] [vR b39,vR b10] st39 ?_
  have G44:=(((PF4.keep K35 (ninS (oL PE2.lt sz_b12) (ninS (oL PE2.lt sz_b15) (ninS (oL PE2.lt sz_b20) nin0)))).other W37 (Or.inr (sn_95_93 hw))).ext E39)
  obtain ⟨T45,h45,X45,e45,W45,st45⟩:=putF X39 hx hZ hown (host:="") (Or.inl (ow94 hw)) Via.refl e39 G44 ((G34.wr W37).ext E39) (Or.inr ⟨(ow95 hw),rfl,hnm⟩) (ow2 hw) (ty:=(.array (.array .int))) (by decide) rfl rfl (g:=(mkF m 109 #[oR b10,oI 1,oI 2,oR b12,oR b15,oU,oU,oU,oU,oU,oU,oU,oU] [vR b39,vR b10])) rfl rfl (hb hby d1_109)
  have Fw45:=Fld.same W45 G44
  have K45:Keep h0 h45 [b10]:=K39.wr W45 oI0
  have N45:=Fr.snoc X45 N38 n_b10
  refine oH st45 X45 tt 2 115 #[oR b10,oI 1,oI 2,oR b12,oR b15,oU,oU,oU,oU,oU,oU,oU,oU] [vR b15,vR b10] rfl ?_
  have G46:=((((g24_3.ext E29).other W37 (Or.inl (oM PE2.lt sz_b15))).ext E39).other W45 (Or.inl (oM PE2.lt sz_b15)))
  have G47:=(((((((A15.keep K19).ext E20).keep K24).ext E29).wr W37).ext E39).wr W45)
  refine own_cI X45 hx hZ hown e45 (ow82 hw) (ow83 hw) (mvT hZ (ow84 hw)) (ow85 hw) (ow86 hw) (ow87 hw) (ow88 hw) (ow54 hw) (ow13 hw) (ow89 hw) G47 (y:=mn11) (z:=mn10) (argsL:=[]) (rest:=[vR b10]) (W:=1) hml.symm (hb hby d1_115) (lenOf pd0 rfl) rfl (by decide) (rm12a25 l Z a0 hw [] b15 h45 n0 (oT (oT (oT (oT Zs27 E29.1) (Keep.of_wr W37).1) E39.1) (Keep.of_wr W45).1) G46) fun _ T48 _ X48 hQ48=>?_
  obtain ⟨rfl,N48q,hh48⟩:=hQ48
  have N48:=Fr.app N45 N48q
  obtain ⟨_,X48,N48⟩:=own_hide X48 N48
  refine oV 120 #[oR b10,oI 1,oI 2,oR b12,oR b15,oU,oU,oU,oU,oU,oU,oU,oU] [vI 2,vR b10] ?_
  obtain ⟨T49,h49,k49,X49,e49,E49,A49,EA49,st49⟩:=newPE (aty:=.int) X48 hx hZ (ow10 hw) hh48 (g:=(mkF m 120 #[oR b10,oI 1,oI 2,oR b12,oR b15,oU,oU,oU,oU,oU,oU,oU,oU] [vI 2,vR b10])) rfl (hb hby d1_120) rfl (by decide) (cap:=2) (by decide) (by decide) (by decide) (by decide) (ad:="[I") (by decide +kernel)
  obtain ⟨b49,g_b49⟩:∃ z,z = h45.size:=⟨_,rfl⟩
  have sg_b49:h45.size≤b49:=Nat.le_of_eq g_b49.symm
  rw [← g_b49] at A49 EA49 st49
  have n_b49:=oT (oT (oT (oT (oT Zs27 E29.1) (Keep.of_wr W37).1) E39.1) (Keep.of_wr W45).1) sg_b49
  have sz_b49:=oT K45.1 sg_b49
  have u50:=(oW V_b39.lt (Keep.of_wr W45).1)
  have u51:=(oW V_x39a.lt (Keep.of_wr W45).1)
  have u52:=(oW V_x39b.lt (Keep.of_wr W45).1)
  have m53:h37.size≤h45.size:=(oT (oT (Nat.le_refl _) E39.1) (Keep.of_wr W45).1)
  have K49:Keep h0 h49 [b10]:=K45.ext E49
  have V_b49:Arv Z h49 b49 k49 .int 2 [vI 0,vI 0] (vI 0):=(Arv.new A49 (by decide)).pad (pad_rep [] (vI 0) 2)
  refine oJ 122 #[oR b10,oI 1,oI 2,oR b12,oR b15,oU,oU,oU,oU,oU,oU,oU,oU] [vR b49,vR b10] st49 ?_
  have G54:=(((((PF5.keep K35 (ninS (oL PE2.lt sz_b12) (ninS (oL PE2.lt sz_b15) (ninS (oL PE2.lt sz_b20) nin0)))).other W37 (Or.inr (sn_97_93 hw))).ext E39).other W45 (Or.inr (sn_97_95 hw))).ext E49)
  obtain ⟨T55,h55,X55,e55,W55,st55⟩:=putF X49 hx hZ hown (host:="") (Or.inl (ow96 hw)) Via.refl e49 G54 ((((G34.wr W37).ext E39).wr W45).ext E49) (Or.inr ⟨(ow97 hw),rfl,hnm⟩) (ow2 hw) (ty:=(.array .int)) (by decide) rfl rfl (g:=(mkF m 122 #[oR b10,oI 1,oI 2,oR b12,oR b15,oU,oU,oU,oU,oU,oU,oU,oU] [vR b49,vR b10])) rfl rfl (hb hby d1_122)
  have Fw55:=Fld.same W55 G54
  have K55:Keep h0 h55 [b10]:=K49.wr W55 oI0
  have N55:=Fr.snoc X55 N48 n_b10
  refine oH st55 X55 tt 4 132 #[oR b10,oI 1,oI 2,oR b12,oR b15,oI 0,oU,oU,oU,oU,oU,oU,oU] [vR b15,vI 0] rfl ?_
  have Zs56:n0≤h55.size:=(oT (oT (oT (oT (oT (oT Zs27 E29.1) (Keep.of_wr W37).1) E39.1) (Keep.of_wr W45).1) E49.1) (Keep.of_wr W55).1)
  refine own_cI X55 hx hZ hown e55 (ow82 hw) (ow83 hw) (mvT hZ (ow84 hw)) (ow85 hw) (ow86 hw) (ow87 hw) (ow88 hw) (ow54 hw) (ow13 hw) (ow89 hw) ((G47.ext E49).wr W55) (y:=mn11) (z:=mn10) (argsL:=[]) (rest:=[vI 0]) (W:=1) hml.symm (hb hby d1_132) (lenOf pd0 rfl) rfl (by decide) (rm12a25 l Z a0 hw [] b15 h55 n0 Zs56 ((G46.ext E49).other W55 (Or.inl (oM PE2.lt sz_b15)))) fun _ T57 _ X57 hQ57=>?_
  obtain ⟨rfl,N57q,hh57⟩:=hQ57
  have N57:=Fr.app N55 N57q
  obtain ⟨_,X57,N57⟩:=own_hide X57 N57
  refine oV 137 #[oR b10,oI 1,oI 2,oR b12,oR b15,oI 0,oU,oU,oU,oU,oU,oU,oU] [vI 2,vI 0] ?_
  refine oG X57 tt 2 141 #[oR b10,oI 1,oI 2,oR b12,oR b15,oI 0,oU,oU,oU,oU,oU,oU,oU] [vI 2] rfl ?_
  obtain ⟨T58,h58,k58,X58,e58,E58,A58,EA58,st58⟩:=newPE (aty:=.boolean) X57 hx hZ (ow98 hw) hh57 (g:=(mkF m 141 #[oR b10,oI 1,oI 2,oR b12,oR b15,oI 0,oU,oU,oU,oU,oU,oU,oU] [vI 2])) rfl (hb hby d1_141) rfl (by decide) (cap:=2) (by decide) (by decide) (by decide) (by decide) (ad:="[Z") (by decide +kernel)
  obtain ⟨b58,g_b58⟩:∃ z,z = h55.size:=⟨_,rfl⟩
  have sg_b58:h55.size≤b58:=Nat.le_of_eq g_b58.symm
  rw [← g_b58] at A58 EA58 st58
  have n_b58:=oT Zs56 sg_b58
  have sz_b58:=oT K55.1 sg_b58
  have u59:=(oW V_b49.lt (Keep.of_wr W55).1)
  have m60:h45.size≤h55.size:=(oT (oT (Nat.le_refl _) E49.1) (Keep.of_wr W55).1)
  have K58:Keep h0 h58 [b10]:=K55.ext E58
  have V_b58:Arv Z h58 b58 k58 .boolean 2 [vI 0,vI 0] (vI 0):=(Arv.new A58 (by decide)).pad (pad_rep [] (vI 0) 2)
  refine oH st58 X58 tt 3 149 #[oR b10,oI 1,oI 2,oR b12,oR b15,oI 0,oR b58,oU,oU,oU,oU,oU,oU] [vI 0,vR b15] rfl ?_
  have K61:Keep _ h58 [b10]:=((((((Keep.refl _ _).wr W37 oI0).ext E39).wr W45 oI0).ext E49).wr W55 oI0).ext E58
  have G62:=((g24_2.ext E29).keep K61 (ninS (oM PE2.lt sz_b15) nin0))
  have G63:=(((G46.ext E49).other W55 (Or.inl (oM PE2.lt sz_b15))).ext E58)
  have G64:=((g24_4.ext E29).keep K61 (ninS (oM PE2.lt sz_b24a) nin0))
  refine own_cI X58 hx hZ hown e58 (ow99 hw) (ow100 hw) (mvT hZ (ow101 hw)) (ow102 hw) (ow103 hw) (ow104 hw) (ow105 hw) (ow54 hw) (ow13 hw) (ow106 hw) (((G47.ext E49).wr W55).ext E58) (y:=mn16) (z:=mn15) (argsL:=[vI 0]) (rest:=[]) (W:=0) hml.symm (hb hby d1_149) (lenOf pd5 rfl) rfl (by decide) (rm13a26 l Z a0 hw [] b15 b24a k24b b24c b24d h58 n0 (oT Zs56 E58.1) (((G47.ext E49).wr W55).ext E58) G62 G63 G64) fun _ T65 _ X65 hQ65=>?_
  obtain ⟨rfl,N65q,hh65⟩:=hQ65
  have N65:=Fr.app N57 N65q
  obtain ⟨_,X65,N65⟩:=own_hide X65 N65
  refine oV 154 #[oR b10,oI 1,oI 2,oR b12,oR b15,oI 0,oR b58,oU,oU,oU,oU,oU,oU] [vR b24c] ?_
  have G66:=(((((((g24_7.ext E29).wr W37).ext E39).wr W45).ext E49).wr W55).ext E58)
  obtain ⟨T67,X67,e67,st67⟩:=castY X65 hx hZ hown (ow45 hw) hh65 (Ins.self G66) (g:=(mkF m 154 #[oR b10,oI 1,oI 2,oR b12,oR b15,oI 0,oR b58,oU,oU,oU,oU,oU,oU] [vR b24c])) rfl rfl (hb hby d1_154)
  refine oJ 157 #[oR b10,oI 1,oI 2,oR b12,oR b15,oI 0,oR b58,oU,oU,oU,oU,oU,oU] [vR b24c] st67 ?_
  have G68:=((g24_6.ext E29).keep K61 (ninS (oM PE2.lt sz_b24c) nin0))
  have l69:b12 < b15:=oW u16 sg_b15
  have l70:b15 < b24c:=oW u21 (oT m26 sg_b24c)
  have c71:=oT m43 m53
  have c72:=oT c71 m60
  have l73:b24c < b58:=oW u31 (oT c72 sg_b58)
  refine oX2 a0 [b10,b12,b15,b24c,b58] [0,0,0,k20,k58] [] [] [4] [3,4] 5 [oR 0,oI 1,oI 2,oR 1,oR 2,oI 0,oR 4,oU,oU,oU,oU,oU,oU] [vR 3] [(3,.int,1,[vI 0]),(4,.boolean,2,[vI 0,vI 0])] 197 [oR 0,oI 1,oI 2,oR 1,oR 2,oI 0,oR 4,oI 0,oI 1,oI 1,oI 0,oU,oU] [vI 2] [(4,[vI 1,vI 0])] tt hZ hown X67 N65 e67 trivial trivial trivial (oA G68 (oA V_b58 trivial)) (Or.inr (oA l13 (oA l69 (oA l70 (oA l73 trivial))))) (oA n_b58 trivial) rfl rfl (by decide +kernel) 25 (by decide +kernel) fun T74 h74 _ X74 N74 e74 K74 q74 M74=>?_
  have Kq74:Keep h58 h74 [b58]:=K74
  have KK74:Keep h0 h74 [b10]:=Keep.trans K58 Kq74 (allS (Or.inr sz_b58) all0)
  obtain ⟨-,v74_1,-⟩:=M74
  have V74_1:Arv Z h74 b58 k58 .boolean 2 [vI 1,vI 0] (vI 0):=v74_1
  refine oV 197 #[oR b10,oI 1,oI 2,oR b12,oR b15,oI 0,oR b58,oI 0,oI 1,oI 1,oI 0,oU,oU] [vI 2] ?_
  obtain ⟨T75,h75,k75,X75,e75,E75,A75,EA75,st75⟩:=newPE (aty:=.boolean) X74 hx hZ (ow98 hw) e74 (g:=(mkF m 197 #[oR b10,oI 1,oI 2,oR b12,oR b15,oI 0,oR b58,oI 0,oI 1,oI 1,oI 0,oU,oU] [vI 2])) rfl (hb hby d1_197) rfl (by decide) (cap:=2) (by decide) (by decide) (by decide) (by decide) (ad:="[Z") (by decide +kernel)
  obtain ⟨b75,g_b75⟩:∃ z,z = h74.size:=⟨_,rfl⟩
  have sg_b75:h74.size≤b75:=Nat.le_of_eq g_b75.symm
  rw [← g_b75] at A75 EA75 st75
  have n_b75:=oT (oT (oT Zs56 E58.1) Kq74.1) sg_b75
  have sz_b75:=oT KK74.1 sg_b75
  have u76:=(oW V_b58.lt Kq74.1)
  have m77:h55.size≤h74.size:=(oT (oT (Nat.le_refl _) E58.1) Kq74.1)
  have K75:Keep h0 h75 [b10]:=KK74.ext E75
  have V_b75:Arv Z h75 b75 k75 .boolean 2 [vI 0,vI 0] (vI 0):=(Arv.new A75 (by decide)).pad (pad_rep [] (vI 0) 2)
  refine oJ 199 #[oR b10,oI 1,oI 2,oR b12,oR b15,oI 0,oR b58,oI 0,oI 1,oI 1,oI 0,oU,oU] [vR b75] st75 ?_
  have c78:=oT m53 m60
  have q79:=oL u40 (oT c78 sg_b58)
  have G80:=(((V_b29.keep K61 (ninS (oM PE2.lt sz_b29) nin0)).keep Kq74 (ninS q79 nin0)).ext E75)
  have q81:=oL u16 (oT m22 sg_b20)
  have c82:=oT m22 m26
  have c83:=oT c82 m33
  have c84:=oT c83 m43
  have c85:=oT c84 m53
  have c86:=oT c85 m60
  have q87:=oL u16 (oT c86 sg_b58)
  have G88:=((((((((V14_0.ext E15).keep K19 (ninS (oL u16 sg_b15) nin0)).ext E20).keep K24 (ninS q81 (ninS (oL u16 sg_b15) nin0))).ext E29).keep K61 (ninS (oM PE2.lt sz_b12) nin0)).keep Kq74 (ninS q87 nin0)).ext E75)
  have q89:=oL u41 (oT c78 sg_b58)
  have G90:=(((V_x29a.keep K61 (ninS (oM PE2.lt sz_x29a) nin0)).keep Kq74 (ninS q89 nin0)).ext E75)
  have q91:=oL u50 (oT m60 sg_b58)
  have G92:=((((((V_b39.other W45 (oM PE2.lt sz_b39)).ext E49).other W55 (oM PE2.lt sz_b39)).ext E58).keep Kq74 (ninS q91 nin0)).ext E75)
  have q93:=oL u51 (oT m60 sg_b58)
  have G94:=((((((V_x39a.other W45 (oM PE2.lt sz_x39a)).ext E49).other W55 (oM PE2.lt sz_x39a)).ext E58).keep Kq74 (ninS q93 nin0)).ext E75)
  have G95:=((((V_b49.other W55 (oM PE2.lt sz_b49)).ext E58).keep Kq74 (ninS (oL u59 sg_b58) nin0)).ext E75)
  have G96:=(((((((Fw37.ext E39).other W45 (Or.inr (sn_93_95 hw))).ext E49).other W55 (Or.inr (sn_93_97 hw))).ext E58).keep Kq74 (ninS (oL PE2.lt sz_b58) nin0)).ext E75)
  have G97:=(((((Fw45.ext E49).other W55 (Or.inr (sn_95_97 hw))).ext E58).keep Kq74 (ninS (oL PE2.lt sz_b58) nin0)).ext E75)
  have G98:=(((Fw55.ext E58).keep Kq74 (ninS (oL PE2.lt sz_b58) nin0)).ext E75)
  have c99:=oT m26 m33
  have l100:b15 < b29:=oW u21 (oT c99 sg_b29)
  have l101:b29 < x29a:=by omega
  have l102:x29a < x29b:=by omega
  have l103:x29b < b39:=oW u42 sg_b39
  have l104:b39 < x39a:=by omega
  have l105:x39a < x39b:=by omega
  have l106:x39b < b49:=oW u52 sg_b49
  have l107:b49 < b58:=oW u59 sg_b58
  have l108:b58 < b75:=oW u76 sg_b75
  refine oX2 a0 [b10,b12,b15,b29,x29a,x29b,b39,x39a,x39b,b49,b58,b75] [0,k12,0,k29,kc29,0,k39,kc39,0,k49,k58,k75] [fE1_26 0 (vR 3),fE1_29 0 (vR 6),fE1_32 0 (vR 9)] [] [11,4,7,9] [11,10,3,1,4,6,7,9] 12 [oR 0,oI 1,oI 2,oR 1,oR 2,oI 0,oR 10,oI 0,oI 1,oI 1,oI 0,oU,oU] [vR 11] [(11,.boolean,2,[vI 0,vI 0]),(10,.boolean,2,[vI 1,vI 0]),(3,(.array .int),2,[vR 4,vR 5]),(1,.int,3,[vI 0,vI 32,vI 64]),(4,.int,2,[vI 0,vI 0]),(6,(.array .int),2,[vR 7,vR 8]),(7,.int,2,[vI 0,vI 0]),(9,.int,2,[vI 0,vI 0])] 132 [oR 0,oI 1,oI 2,oR 1,oR 2,oI 1,oR 10,oI 2,oR 11,oI 2,oI 2,oI 0,oI 2] [vR 2,vI 1] [(11,[vI 1,vI 0]),(4,[vI 32,vI 0]),(7,[vI 32,vI 32]),(9,[vI 32,vI 0])] tt hZ hown X75 N74 e75 (oA (ow92 hw) (oA (ow94 hw) (oA (ow96 hw) trivial))) trivial (oA G96 (oA G97 (oA G98 trivial))) (oA V_b75 (oA (V74_1.ext E75) (oA G80 (oA G88 (oA G90 (oA G92 (oA G94 (oA G95 trivial)))))))) (Or.inr (oA l13 (oA l69 (oA l100 (oA l101 (oA l102 (oA l103 (oA l104 (oA l105 (oA l106 (oA l107 (oA l108 trivial)))))))))))) (oA n_b75 (oA n_x29a (oA n_x39a (oA n_b49 trivial)))) rfl rfl (by decide +kernel) 173 (by decide +kernel) fun T109 h109 _ X109 N109 e109 K109 q109 M109=>?_
  have Kq109:Keep h75 h109 [b75,x29a,x39a,b49]:=K109
  have KK109:Keep h0 h109 [b10]:=Keep.trans K75 Kq109 (allS (Or.inr sz_b75) (allS (Or.inr sz_x29a) (allS (Or.inr sz_x39a) (allS (Or.inr sz_b49) all0))))
  obtain ⟨v109_0,-,-,-,v109_4,-,v109_6,v109_7,-⟩:=M109
  have V109_0:Arv Z h109 b75 k75 .boolean 2 [vI 1,vI 0] (vI 0):=v109_0
  have V109_4:Arv Z h109 x29a kc29 .int 2 [vI 32,vI 0] (vI 0):=v109_4
  have V109_6:Arv Z h109 x39a kc39 .int 2 [vI 32,vI 32] (vI 0):=v109_6
  have V109_7:Arv Z h109 b49 k49 .int 2 [vI 32,vI 0] (vI 0):=v109_7
  refine oV 132 #[oR b10,oI 1,oI 2,oR b12,oR b15,oI 1,oR b58,oI 2,oR b75,oI 2,oI 2,oI 0,oI 2] [vR b15,vI 1] ?_
  have c110:=oT c99 m43
  have c111:=oT c110 m53
  have c112:=oT c111 m60
  have q113:=oL u21 (oT c112 sg_b58)
  have q114:=oL u21 (oT c111 sg_b49)
  have q115:=oL u21 (oT c110 sg_x39a)
  have q116:=oL u21 (oT c99 sg_x29a)
  have c117:=oT c112 m77
  have q118:=oL u21 (oT c117 sg_b75)
  have G119:=(((G63.keep Kq74 (ninS q113 nin0)).ext E75).keep Kq109 (ninS q118 (ninS q116 (ninS q115 (ninS q114 nin0)))))
  have G120:=((((((G47.ext E49).wr W55).ext E58).keep Kq74).ext E75).keep Kq109)
  refine own_cI X109 hx hZ hown e109 (ow82 hw) (ow83 hw) (mvT hZ (ow84 hw)) (ow85 hw) (ow86 hw) (ow87 hw) (ow88 hw) (ow54 hw) (ow13 hw) (ow89 hw) G120 (y:=mn11) (z:=mn10) (argsL:=[]) (rest:=[vI 1]) (W:=1) hml.symm (hb hby d1_132) (lenOf pd0 rfl) rfl (by decide) (rm12a25 l Z a0 hw [] b15 h109 n0 (oT (oT (oT (oT Zs56 E58.1) Kq74.1) E75.1) Kq109.1) G119) fun _ T121 _ X121 hQ121=>?_
  obtain ⟨rfl,N121q,hh121⟩:=hQ121
  have N121:=Fr.app N109 N121q
  obtain ⟨_,X121,N121⟩:=own_hide X121 N121
  refine oV 137 #[oR b10,oI 1,oI 2,oR b12,oR b15,oI 1,oR b58,oI 2,oR b75,oI 2,oI 2,oI 0,oI 2] [vI 2,vI 1] ?_
  refine oG X121 tt 2 141 #[oR b10,oI 1,oI 2,oR b12,oR b15,oI 1,oR b58,oI 2,oR b75,oI 2,oI 2,oI 0,oI 2] [vI 2] rfl ?_
  obtain ⟨T122,h122,k122,X122,e122,E122,A122,EA122,st122⟩:=newPE (aty:=.boolean) X121 hx hZ (ow98 hw) hh121 (g:=(mkF m 141 #[oR b10,oI 1,oI 2,oR b12,oR b15,oI 1,oR b58,oI 2,oR b75,oI 2,oI 2,oI 0,oI 2] [vI 2])) rfl (hb hby d1_141) rfl (by decide) (cap:=2) (by decide) (by decide) (by decide) (by decide) (ad:="[Z") (by decide +kernel)
  obtain ⟨b122,g_b122⟩:∃ z,z = h109.size:=⟨_,rfl⟩
  have sg_b122:h109.size≤b122:=Nat.le_of_eq g_b122.symm
  rw [← g_b122] at A122 EA122 st122
  have n_b122:=oT (oT (oT (oT (oT Zs56 E58.1) Kq74.1) E75.1) Kq109.1) sg_b122
  have sz_b122:=oT KK109.1 sg_b122
  have u123:=(oW V_b75.lt Kq109.1)
  have m124:h74.size≤h109.size:=(oT (oT (Nat.le_refl _) E75.1) Kq109.1)
  have K122:Keep h0 h122 [b10]:=KK109.ext E122
  have V_b122:Arv Z h122 b122 k122 .boolean 2 [vI 0,vI 0] (vI 0):=(Arv.new A122 (by decide)).pad (pad_rep [] (vI 0) 2)
  refine oH st122 X122 tt 3 149 #[oR b10,oI 1,oI 2,oR b12,oR b15,oI 1,oR b122,oI 2,oR b75,oI 2,oI 2,oI 0,oI 2] [vI 1,vR b15] rfl ?_
  have G125:=((((G62.keep Kq74 (ninS q113 nin0)).ext E75).keep Kq109 (ninS q118 (ninS q116 (ninS q115 (ninS q114 nin0))))).ext E122)
  have q126:=oL u30 (oT c72 sg_b58)
  have q127:=oL u30 (oT c71 sg_b49)
  have q128:=oL u30 (oT m43 sg_x39a)
  have c129:=oT c72 m77
  have q130:=oL u30 (oT c129 sg_b75)
  have G131:=((((G64.keep Kq74 (ninS q126 nin0)).ext E75).keep Kq109 (ninS q130 (ninS (oL u30 sg_x29a) (ninS q128 (ninS q127 nin0))))).ext E122)
  refine own_cI X122 hx hZ hown e122 (ow99 hw) (ow100 hw) (mvT hZ (ow101 hw)) (ow102 hw) (ow103 hw) (ow104 hw) (ow105 hw) (ow54 hw) (ow13 hw) (ow106 hw) (G120.ext E122) (y:=mn16) (z:=mn15) (argsL:=[vI 1]) (rest:=[]) (W:=0) hml.symm (hb hby d1_149) (lenOf pd5 rfl) rfl (by decide) (rm13a30 l Z a0 hw [] b15 b24a k24b b24c b24d h122 n0 (oT (oT (oT (oT (oT Zs56 E58.1) Kq74.1) E75.1) Kq109.1) E122.1) (G120.ext E122) G125 (G119.ext E122) G131) fun _ T132 _ X132 hQ132=>?_
  obtain ⟨rfl,N132q,hh132⟩:=hQ132
  have N132:=Fr.app N121 N132q
  obtain ⟨_,X132,N132⟩:=own_hide X132 N132
  refine oV 154 #[oR b10,oI 1,oI 2,oR b12,oR b15,oI 1,oR b122,oI 2,oR b75,oI 2,oI 2,oI 0,oI 2] [vR b24d] ?_
  have G133:=((((((g24_9.ext E29).keep K61).keep Kq74).ext E75).keep Kq109).ext E122)
  obtain ⟨T134,X134,e134,st134⟩:=castY X132 hx hZ hown (ow45 hw) hh132 (Ins.self G133) (g:=(mkF m 154 #[oR b10,oI 1,oI 2,oR b12,oR b15,oI 1,oR b122,oI 2,oR b75,oI 2,oI 2,oI 0,oI 2] [vR b24d])) rfl rfl (hb hby d1_154)
  refine oJ 157 #[oR b10,oI 1,oI 2,oR b12,oR b15,oI 1,oR b122,oI 2,oR b75,oI 2,oI 2,oI 0,oI 2] [vR b24d] st134 ?_
  have q135:=oL u32 (oT c72 sg_b58)
  have q136:=oL u32 (oT c71 sg_b49)
  have q137:=oL u32 (oT m43 sg_x39a)
  have q138:=oL u32 (oT c129 sg_b75)
  have G139:=((((((g24_8.ext E29).keep K61 (ninS (oM PE2.lt sz_b24d) nin0)).keep Kq74 (ninS q135 nin0)).ext E75).keep Kq109 (ninS q138 (ninS (oL u32 sg_x29a) (ninS q137 (ninS q136 nin0))))).ext E122)
  have l140:b15 < b24d:=oW u21 (oT m26 sg_b24d)
  have l141:b24d < b75:=oW u32 (oT c129 sg_b75)
  have l142:b75 < b122:=oW u123 sg_b122
  refine oX2 a0 [b10,b12,b15,b24d,b75,b122] [0,0,0,k20,0,k122] [] [] [5] [3,5] 6 [oR 0,oI 1,oI 2,oR 1,oR 2,oI 1,oR 5,oI 2,oR 4,oI 2,oI 2,oI 0,oI 2] [vR 3] [(3,.int,1,[vI 1]),(5,.boolean,2,[vI 0,vI 0])] 197 [oR 0,oI 1,oI 2,oR 1,oR 2,oI 1,oR 5,oI 0,oI 1,oI 1,oI 1,oI 0,oI 2] [vI 2] [(5,[vI 0,vI 1])] tt hZ hown X134 N132 e134 trivial trivial trivial (oA G139 (oA V_b122 trivial)) (Or.inr (oA l13 (oA l69 (oA l140 (oA l141 (oA l142 trivial)))))) (oA n_b122 trivial) rfl rfl (by decide +kernel) 25 (by decide +kernel) fun T143 h143 _ X143 N143 e143 K143 q143 M143=>?_
  have Kq143:Keep h122 h143 [b122]:=K143
  have KK143:Keep h0 h143 [b10]:=Keep.trans K122 Kq143 (allS (Or.inr sz_b122) all0)
  obtain ⟨-,v143_1,-⟩:=M143
  have V143_1:Arv Z h143 b122 k122 .boolean 2 [vI 0,vI 1] (vI 0):=v143_1
  refine oV 197 #[oR b10,oI 1,oI 2,oR b12,oR b15,oI 1,oR b122,oI 0,oI 1,oI 1,oI 1,oI 0,oI 2] [vI 2] ?_
  obtain ⟨T144,h144,k144,X144,e144,E144,A144,EA144,st144⟩:=newPE (aty:=.boolean) X143 hx hZ (ow98 hw) e143 (g:=(mkF m 197 #[oR b10,oI 1,oI 2,oR b12,oR b15,oI 1,oR b122,oI 0,oI 1,oI 1,oI 1,oI 0,oI 2] [vI 2])) rfl (hb hby d1_197) rfl (by decide) (cap:=2) (by decide) (by decide) (by decide) (by decide) (ad:="[Z") (by decide +kernel)
  have Zs145:n0≤h143.size:=(oT (oT (oT (oT (oT (oT Zs56 E58.1) Kq74.1) E75.1) Kq109.1) E122.1) Kq143.1)
  obtain ⟨b144,g_b144⟩:∃ z,z = h143.size:=⟨_,rfl⟩
  have sg_b144:h143.size≤b144:=Nat.le_of_eq g_b144.symm
  rw [← g_b144] at A144 EA144 st144
  have n_b144:=oT Zs145 sg_b144
  have sz_b144:=oT KK143.1 sg_b144
  have u146:=(oW V_b122.lt Kq143.1)
  have m147:h109.size≤h143.size:=(oT (oT (Nat.le_refl _) E122.1) Kq143.1)
  have K144:Keep h0 h144 [b10]:=KK143.ext E144
  have V_b144:Arv Z h144 b144 k144 .boolean 2 [vI 0,vI 0] (vI 0):=(Arv.new A144 (by decide)).pad (pad_rep [] (vI 0) 2)
  refine oJ 199 #[oR b10,oI 1,oI 2,oR b12,oR b15,oI 1,oR b122,oI 0,oI 1,oI 1,oI 1,oI 0,oI 2] [vR b144] st144 ?_
  have q148:=oL u40 (oT m53 sg_b49)
  have c149:=oT c78 m77
  have q150:=oL u40 (oT c149 sg_b75)
  have c151:=oT c149 m124
  have q152:=oL u40 (oT c151 sg_b122)
  have G153:=((((G80.keep Kq109 (ninS q150 (ninS (Ne.symm nn_x29a_b29) (ninS (oL u40 sg_x39a) (ninS q148 nin0))))).ext E122).keep Kq143 (ninS q152 nin0)).ext E144)
  have q154:=oL u16 (oT c85 sg_b49)
  have q155:=oL u16 (oT c84 sg_x39a)
  have q156:=oL u16 (oT c83 sg_x29a)
  have c157:=oT c86 m77
  have q158:=oL u16 (oT c157 sg_b75)
  have c159:=oT c157 m124
  have q160:=oL u16 (oT c159 sg_b122)
  have G161:=((((G88.keep Kq109 (ninS q158 (ninS q156 (ninS q155 (ninS q154 nin0))))).ext E122).keep Kq143 (ninS q160 nin0)).ext E144)
  have q162:=oL u42 (oT c78 sg_b58)
  have q163:=oL u42 (oT m53 sg_b49)
  have q164:=oL u42 (oT c149 sg_b75)
  have q165:=oL u42 (oT c151 sg_b122)
  have K166:Keep _ h144 [b58,b75,x29a,x39a,b49,b122]:=(Keep.trans ((Keep.trans ((Keep.trans (Keep.refl _ _) Kq74 (allS oI0 all0)).ext E75) Kq109 (allS oI1 (allS oI2 (allS oI3 (allS oI4 all0))))).ext E122) Kq143 (allS oI5 all0)).ext E144
  have G167:=((V_x29b.keep K61 (ninS (oM PE2.lt sz_x29b) nin0)).keep K166 (ninS q162 (ninS q164 (ninS nn_x29b_x29a (ninS (oL u42 sg_x39a) (ninS q163 (ninS q165 nin0)))))))
  have c168:=oT m60 m77
  have q169:=oL u50 (oT c168 sg_b75)
  have c170:=oT c168 m124
  have q171:=oL u50 (oT c170 sg_b122)
  have G172:=((((G92.keep Kq109 (ninS q169 (ninS (oM u41 sg_b39) (ninS (Ne.symm nn_x39a_b39) (ninS (oL u50 sg_b49) nin0))))).ext E122).keep Kq143 (ninS q171 nin0)).ext E144)
  have q173:=oL u52 (oT m60 sg_b58)
  have q174:=oL u52 (oT c168 sg_b75)
  have q175:=oL u52 (oT c170 sg_b122)
  have G176:=(((((V_x39b.other W45 (oM PE2.lt sz_x39b)).ext E49).other W55 (oM PE2.lt sz_x39b)).ext E58).keep K166 (ninS q173 (ninS q174 (ninS (oM u41 sg_x39b) (ninS nn_x39b_x39a (ninS (oL u52 sg_b49) (ninS q175 nin0)))))))
  have c177:=oT m77 m124
  have q178:=oL u59 (oT c177 sg_b122)
  have G179:=((((G96.keep Kq109 (ninS (oL PE2.lt sz_b75) (ninS (oL PE2.lt sz_x29a) (ninS (oL PE2.lt sz_x39a) (ninS (oL PE2.lt sz_b49) nin0))))).ext E122).keep Kq143 (ninS (oL PE2.lt sz_b122) nin0)).ext E144)
  have G180:=((((G97.keep Kq109 (ninS (oL PE2.lt sz_b75) (ninS (oL PE2.lt sz_x29a) (ninS (oL PE2.lt sz_x39a) (ninS (oL PE2.lt sz_b49) nin0))))).ext E122).keep Kq143 (ninS (oL PE2.lt sz_b122) nin0)).ext E144)
  have G181:=((((G98.keep Kq109 (ninS (oL PE2.lt sz_b75) (ninS (oL PE2.lt sz_x29a) (ninS (oL PE2.lt sz_x39a) (ninS (oL PE2.lt sz_b49) nin0))))).ext E122).keep Kq143 (ninS (oL PE2.lt sz_b122) nin0)).ext E144)
  have l182:b49 < b122:=oW u59 (oT c177 sg_b122)
  have l183:b122 < b144:=oW u146 sg_b144
  refine oX2 a0 [b10,b12,b15,b29,x29a,x29b,b39,x39a,x39b,b49,b122,b144] [0,k12,0,k29,0,kc29,k39,0,kc39,k49,k122,k144] [fE1_26 0 (vR 3),fE1_29 0 (vR 6),fE1_32 0 (vR 9)] [] [11,5,8,9] [11,10,3,1,5,6,8,9] 12 [oR 0,oI 1,oI 2,oR 1,oR 2,oI 1,oR 10,oI 0,oI 1,oI 1,oI 1,oI 0,oI 2] [vR 11] [(11,.boolean,2,[vI 0,vI 0]),(10,.boolean,2,[vI 0,vI 1]),(3,(.array .int),2,[vR 4,vR 5]),(1,.int,3,[vI 0,vI 32,vI 64]),(5,.int,2,[vI 0,vI 0]),(6,(.array .int),2,[vR 7,vR 8]),(8,.int,2,[vI 0,vI 0]),(9,.int,2,[vI 32,vI 0])] 132 [oR 0,oI 1,oI 2,oR 1,oR 2,oI 2,oR 10,oI 2,oR 11,oI 2,oI 2,oI 0,oI 2] [vR 2,vI 2] [(11,[vI 1,vI 0]),(5,[vI 0,vI 32]),(8,[vI 32,vI 32]),(9,[vI 32,vI 32])] tt hZ hown X144 N143 e144 (oA (ow92 hw) (oA (ow94 hw) (oA (ow96 hw) trivial))) trivial (oA G179 (oA G180 (oA G181 trivial))) (oA V_b144 (oA (V143_1.ext E144) (oA G153 (oA G161 (oA G167 (oA G172 (oA G176 (oA (((V109_7.ext E122).keep Kq143 (ninS q178 nin0)).ext E144) trivial)))))))) (Or.inr (oA l13 (oA l69 (oA l100 (oA l101 (oA l102 (oA l103 (oA l104 (oA l105 (oA l106 (oA l182 (oA l183 trivial)))))))))))) (oA n_b144 (oA n_x29b (oA n_x39b (oA n_b49 trivial)))) rfl rfl (by decide +kernel) 173 (by decide +kernel) fun T184 h184 _ X184 N184 e184 K184 q184 M184=>?_
  have Kq184:Keep h144 h184 [b144,x29b,x39b,b49]:=K184
  have KK184:Keep h0 h184 [b10]:=Keep.trans K144 Kq184 (allS (Or.inr sz_b144) (allS (Or.inr sz_x29b) (allS (Or.inr sz_x39b) (allS (Or.inr sz_b49) all0))))
  obtain ⟨v184_0,-,-,-,v184_4,-,v184_6,v184_7,-⟩:=M184
  have V184_0:Arv Z h184 b144 k144 .boolean 2 [vI 1,vI 0] (vI 0):=v184_0
  have V184_4:Arv Z h184 x29b kc29 .int 2 [vI 0,vI 32] (vI 0):=v184_4
  have V184_6:Arv Z h184 x39b kc39 .int 2 [vI 32,vI 32] (vI 0):=v184_6
  have V184_7:Arv Z h184 b49 k49 .int 2 [vI 32,vI 32] (vI 0):=v184_7
  refine oV 132 #[oR b10,oI 1,oI 2,oR b12,oR b15,oI 2,oR b122,oI 2,oR b144,oI 2,oI 2,oI 0,oI 2] [vR b15,vI 2] ?_
  have c185:=oT c117 m124
  have q186:=oL u21 (oT c185 sg_b122)
  have q187:=oL u21 (oT c110 sg_x39b)
  have q188:=oL u21 (oT c99 sg_x29b)
  have c189:=oT c185 m147
  have q190:=oL u21 (oT c189 sg_b144)
  have G191:=((((G119.ext E122).keep Kq143 (ninS q186 nin0)).ext E144).keep Kq184 (ninS q190 (ninS q188 (ninS q187 (ninS q114 nin0)))))
  refine own_cI X184 hx hZ hown e184 (ow82 hw) (ow83 hw) (mvT hZ (ow84 hw)) (ow85 hw) (ow86 hw) (ow87 hw) (ow88 hw) (ow54 hw) (ow13 hw) (ow89 hw) ((((G120.ext E122).keep Kq143).ext E144).keep Kq184) (y:=mn11) (z:=mn10) (argsL:=[]) (rest:=[vI 2]) (W:=1) hml.symm (hb hby d1_132) (lenOf pd0 rfl) rfl (by decide) (rm12a25 l Z a0 hw [] b15 h184 n0 (oT (oT Zs145 E144.1) Kq184.1) G191) fun _ T192 _ X192 hQ192=>?_
  obtain ⟨rfl,N192q,hh192⟩:=hQ192
  have N192:=Fr.app N184 N192q
  obtain ⟨_,X192,N192⟩:=own_hide X192 N192
  refine oV 137 #[oR b10,oI 1,oI 2,oR b12,oR b15,oI 2,oR b122,oI 2,oR b144,oI 2,oI 2,oI 0,oI 2] [vI 2,vI 2] ?_
  refine oG X192 tt 3 343 #[oR b10,oI 1,oI 2,oR b12,oR b15,oI 2,oR b122,oI 2,oR b144,oI 2,oI 2,oI 0,oI 2] [vR b15,vR b10] rfl ?_
  refine own_cI X192 hx hZ hown hh192 (ow82 hw) (ow83 hw) (mvT hZ (ow84 hw)) (ow85 hw) (ow86 hw) (ow87 hw) (ow88 hw) (ow54 hw) (ow13 hw) (ow89 hw) ((((G120.ext E122).keep Kq143).ext E144).keep Kq184) (y:=mn11) (z:=mn10) (argsL:=[]) (rest:=[vR b10]) (W:=1) hml.symm (hb hby d1_343) (lenOf pd0 rfl) rfl (by decide) (rm12a25 l Z a0 hw [] b15 h184 n0 (oT (oT Zs145 E144.1) Kq184.1) G191) fun _ T193 _ X193 hQ193=>?_
  obtain ⟨rfl,N193q,hh193⟩:=hQ193
  have N193:=Fr.app N192 N193q
  obtain ⟨_,X193,N193⟩:=own_hide X193 N193
  refine oV 348 #[oR b10,oI 1,oI 2,oR b12,oR b15,oI 2,oR b122,oI 2,oR b144,oI 2,oI 2,oI 0,oI 2] [vI 2,vR b10] ?_
  obtain ⟨T194,h194,k194,X194,e194,E194,A194,EA194,O194,st194⟩:=newRA X193 hx hZ (C:="[J") (ty:=.long) hown (by decide +kernel) (ow120 hw) (ow121 hw) hh193 (g:=(mkF m 348 #[oR b10,oI 1,oI 2,oR b12,oR b15,oI 2,oR b122,oI 2,oR b144,oI 2,oI 2,oI 0,oI 2] [vI 2,vR b10])) rfl (hb hby d1_348) rfl (by decide) (cap:=2) (by decide) (by decide) (by decide) (by decide) (ad:="[[J") (by decide +kernel)
  obtain ⟨b194,g_b194⟩:∃ z,z = h184.size:=⟨_,rfl⟩
  have sg_b194:h184.size≤b194:=Nat.le_of_eq g_b194.symm
  rw [← g_b194] at A194 EA194 st194
  have n_b194:=oT (oT (oT Zs145 E144.1) Kq184.1) sg_b194
  have sz_b194:=oT KK184.1 sg_b194
  have u195:=(oW V_b144.lt Kq184.1)
  have m196:h143.size≤h184.size:=(oT (oT (Nat.le_refl _) E144.1) Kq184.1)
  have K194:Keep h0 h194 [b10]:=KK184.ext E194
  have V_b194:Arv Z h194 b194 k194 (.array .long) 2 [.null,.null] .null:=(Arv.new A194 (by decide)).pad (pad_rep [] .null 2)
  refine oJ 351 #[oR b10,oI 1,oI 2,oR b12,oR b15,oI 2,oR b122,oI 2,oR b144,oI 2,oI 2,oI 0,oI 2] [vR b194,vR b10] st194 ?_
  have G197:=((((((((((PF6.keep K35 (ninS (oL PE2.lt sz_b12) (ninS (oL PE2.lt sz_b15) (ninS (oL PE2.lt sz_b20) nin0)))).other W37 (Or.inr (sn_123_93 hw))).ext E39).other W45 (Or.inr (sn_123_95 hw))).ext E49).other W55 (Or.inr (sn_123_97 hw))).ext E58).keep K166 (ninS (oL PE2.lt sz_b58) (ninS (oL PE2.lt sz_b75) (ninS (oL PE2.lt sz_x29a) (ninS (oL PE2.lt sz_x39a) (ninS (oL PE2.lt sz_b49) (ninS (oL PE2.lt sz_b122) nin0))))))).keep Kq184 (ninS (oL PE2.lt sz_b144) (ninS (oL PE2.lt sz_x29b) (ninS (oL PE2.lt sz_x39b) (ninS (oL PE2.lt sz_b49) nin0))))).ext E194)
  obtain ⟨T198,h198,X198,e198,W198,st198⟩:=putF X194 hx hZ hown (host:="") (Or.inl (ow122 hw)) Via.refl e194 G197 ((((G34.keep K61).keep K166).keep Kq184).ext E194) (Or.inr ⟨(ow123 hw),rfl,hnm⟩) (ow2 hw) (ty:=(.array (.array .long))) (by decide) rfl rfl (g:=(mkF m 351 #[oR b10,oI 1,oI 2,oR b12,oR b15,oI 2,oR b122,oI 2,oR b144,oI 2,oI 2,oI 0,oI 2] [vR b194,vR b10])) rfl rfl (hb hby d1_351)
  have Fw198:=Fld.same W198 G197
  have K198:Keep h0 h198 [b10]:=K194.wr W198 oI0
  have N198:=Fr.snoc X198 N193 n_b10
  refine oH st198 X198 tt 4 361 #[oR b10,oI 1,oI 2,oR b12,oR b15,oI 0,oR b122,oI 2,oR b144,oI 2,oI 2,oI 0,oI 2] [vR b15,vI 0] rfl ?_
  have G199:=((((((G120.ext E122).keep Kq143).ext E144).keep Kq184).ext E194).wr W198)
  refine own_cI X198 hx hZ hown e198 (ow82 hw) (ow83 hw) (mvT hZ (ow84 hw)) (ow85 hw) (ow86 hw) (ow87 hw) (ow88 hw) (ow54 hw) (ow13 hw) (ow89 hw) G199 (y:=mn11) (z:=mn10) (argsL:=[]) (rest:=[vI 0]) (W:=1) hml.symm (hb hby d1_361) (lenOf pd0 rfl) rfl (by decide) (rm12a25 l Z a0 hw [] b15 h198 n0 (oT (oT (oT (oT Zs145 E144.1) Kq184.1) E194.1) (Keep.of_wr W198).1) ((G191.ext E194).other W198 (Or.inl (oM PE2.lt sz_b15)))) fun _ T200 _ X200 hQ200=>?_
  obtain ⟨rfl,N200q,hh200⟩:=hQ200
  have N200:=Fr.app N198 N200q
  obtain ⟨_,X200,N200⟩:=own_hide X200 N200
  refine oV 366 #[oR b10,oI 1,oI 2,oR b12,oR b15,oI 0,oR b122,oI 2,oR b144,oI 2,oI 2,oI 0,oI 2] [vI 2,vI 0] ?_
  refine oX2 a0 [b10,b12,b15,b122,b144,b194] [0,0,0,0,0,0] [fE1_43 0 (vR 5)] [] [] [] 6 [oR 0,oI 1,oI 2,oR 1,oR 2,oI 0,oR 3,oI 2,oR 4,oI 2,oI 2,oI 0,oI 2] [vI 2,vI 0] [] 377 [oR 0,oI 1,oI 2,oR 1,oR 2,oI 0,oR 3,oI 2,oR 4,oI 2,oI 2,oI 0,oI 2] [vI 0,vI 0,vR 5] [] tt hZ hown X200 N200 hh200 (oA (ow122 hw) trivial) trivial (oA Fw198 trivial) trivial (Or.inl rfl) trivial rfl rfl (by decide +kernel) 5 (by decide +kernel) fun T201 h201 _ X201 N201 e201 K201 q201 M201=>?_
  have e201:=e201.trans (q201 rfl)
  refine oV 377 #[oR b10,oI 1,oI 2,oR b12,oR b15,oI 0,oR b122,oI 2,oR b144,oI 2,oI 2,oI 0,oI 2] [vI 0,vI 0,vR b194] ?_
  obtain ⟨T202,h202,k202,X202,e202,E202,A202,EA202,st202⟩:=newPE (aty:=.long) X201 hx hZ (ow124 hw) e201 (g:=(mkF m 377 #[oR b10,oI 1,oI 2,oR b12,oR b15,oI 0,oR b122,oI 2,oR b144,oI 2,oI 2,oI 0,oI 2] [vI 0,vI 0,vR b194])) rfl (hb hby d1_377) rfl (by decide) (cap:=0) (by decide) (by decide) (by decide) (by decide) (ad:="[J") (by decide +kernel)
  obtain ⟨b202,g_b202⟩:∃ z,z = h198.size:=⟨_,rfl⟩
  have sg_b202:h198.size≤b202:=Nat.le_of_eq g_b202.symm
  rw [← g_b202] at A202 EA202 st202
  have n_b202:=oT (oT (oT (oT (oT Zs145 E144.1) Kq184.1) E194.1) (Keep.of_wr W198).1) sg_b202
  have sz_b202:=oT K198.1 sg_b202
  have u203:=(oW V_b194.lt (Keep.of_wr W198).1)
  have m204:h184.size≤h198.size:=(oT (oT (Nat.le_refl _) E194.1) (Keep.of_wr W198).1)
  have K202:Keep h0 h202 [b10]:=K198.ext E202
  have V_b202:Arv Z h202 b202 k202 .long 0 [] (.long (0:Int64)):=Arv.new A202 (by decide)
  refine oJ 379 #[oR b10,oI 1,oI 2,oR b12,oR b15,oI 0,oR b122,oI 2,oR b144,oI 2,oI 2,oI 0,oI 2] [vR b202,vI 0,vR b194] st202 ?_
  obtain ⟨T205,h205,X205,e205,W205,V205,st205⟩:=own_stR X202 hx hZ e202 ((V_b194.other W198 (oM PE2.lt sz_b194)).ext E202) (j:=(0:Int32)) ⟨by decide,by decide⟩ rfl rfl (fun cl Ar q=>Sto.ofVA Ar q O194 (Ins.self EA202)) 0 rfl (Nat.le_of_ble_eq_true rfl) (g:=(mkF m 379 #[oR b10,oI 1,oI 2,oR b12,oR b15,oI 0,oR b122,oI 2,oR b144,oI 2,oI 2,oI 0,oI 2] [vR b202,vI 0,vR b194])) rfl rfl (hb hby d1_379)
  have K205:Keep h0 h205 [b10]:=K202.wr W205 (Or.inr sz_b194)
  have V205s:Arv Z h205 b194 k194 (.array .long) 2 [vR b202,.null] .null:=V205
  have N205:=Fr.snoc X205 N201 n_b194
  refine oH st205 X205 tt 9 361 #[oR b10,oI 1,oI 2,oR b12,oR b15,oI 1,oI 0,oI 2,oR b144,oI 2,oI 2,oI 0,oI 2] [vR b15,vI 1] rfl ?_
  have c206:=oT c189 m196
  have q207:=oL u21 (oT c206 sg_b194)
  have G208:=((((G191.ext E194).other W198 (Or.inl (oM PE2.lt sz_b15))).ext E202).other W205 (Or.inl q207))
  have Zs209:n0≤h205.size:=(oT (oT (oT (oT (oT (oT Zs145 E144.1) Kq184.1) E194.1) (Keep.of_wr W198).1) E202.1) (Keep.of_wr W205).1)
  refine own_cI X205 hx hZ hown e205 (ow82 hw) (ow83 hw) (mvT hZ (ow84 hw)) (ow85 hw) (ow86 hw) (ow87 hw) (ow88 hw) (ow54 hw) (ow13 hw) (ow89 hw) ((G199.ext E202).wr W205) (y:=mn11) (z:=mn10) (argsL:=[]) (rest:=[vI 1]) (W:=1) hml.symm (hb hby d1_361) (lenOf pd0 rfl) rfl (by decide) (rm12a25 l Z a0 hw [] b15 h205 n0 Zs209 G208) fun _ T210 _ X210 hQ210=>?_
  obtain ⟨rfl,N210q,hh210⟩:=hQ210
  have N210:=Fr.app N205 N210q
  obtain ⟨_,X210,N210⟩:=own_hide X210 N210
  refine oV 366 #[oR b10,oI 1,oI 2,oR b12,oR b15,oI 1,oI 0,oI 2,oR b144,oI 2,oI 2,oI 0,oI 2] [vI 2,vI 1] ?_
  refine oX2 a0 [b10,b12,b15,b144,b194] [0,0,0,0,0] [fE1_43 0 (vR 4)] [] [] [] 5 [oR 0,oI 1,oI 2,oR 1,oR 2,oI 1,oI 0,oI 2,oR 3,oI 2,oI 2,oI 0,oI 2] [vI 2,vI 1] [] 377 [oR 0,oI 1,oI 2,oR 1,oR 2,oI 1,oI 0,oI 2,oR 3,oI 2,oI 2,oI 0,oI 2] [vI 1,vI 1,vR 4] [] tt hZ hown X210 N210 hh210 (oA (ow122 hw) trivial) trivial (oA ((Fw198.ext E202).other W205 (Or.inl (oL PE2.lt sz_b194))) trivial) trivial (Or.inl rfl) trivial rfl rfl (by decide +kernel) 5 (by decide +kernel) fun T211 h211 _ X211 N211 e211 K211 q211 M211=>?_
  have e211:=e211.trans (q211 rfl)
  refine oV 377 #[oR b10,oI 1,oI 2,oR b12,oR b15,oI 1,oI 0,oI 2,oR b144,oI 2,oI 2,oI 0,oI 2] [vI 1,vI 1,vR b194] ?_
  obtain ⟨T212,h212,k212,X212,e212,E212,A212,EA212,st212⟩:=newPE (aty:=.long) X211 hx hZ (ow124 hw) e211 (g:=(mkF m 377 #[oR b10,oI 1,oI 2,oR b12,oR b15,oI 1,oI 0,oI 2,oR b144,oI 2,oI 2,oI 0,oI 2] [vI 1,vI 1,vR b194])) rfl (hb hby d1_377) rfl (by decide) (cap:=1) (by decide) (by decide) (by decide) (by decide) (ad:="[J") (by decide +kernel)
  obtain ⟨b212,g_b212⟩:∃ z,z = h205.size:=⟨_,rfl⟩
  have sg_b212:h205.size≤b212:=Nat.le_of_eq g_b212.symm
  rw [← g_b212] at A212 EA212 st212
  have n_b212:=oT Zs209 sg_b212
  have sz_b212:=oT K205.1 sg_b212
  have u213:=(oW V_b202.lt (Keep.of_wr W205).1)
  have m214:h198.size≤h205.size:=(oT (oT (Nat.le_refl _) E202.1) (Keep.of_wr W205).1)
  have K212:Keep h0 h212 [b10]:=K205.ext E212
  have V_b212:Arv Z h212 b212 k212 .long 1 [(.long (0:Int64))] (.long (0:Int64)):=(Arv.new A212 (by decide)).pad (pad_rep [] (.long (0:Int64)) 1)
  refine oJ 379 #[oR b10,oI 1,oI 2,oR b12,oR b15,oI 1,oI 0,oI 2,oR b144,oI 2,oI 2,oI 0,oI 2] [vR b212,vI 1,vR b194] st212 ?_
  obtain ⟨T215,h215,X215,e215,W215,V215,st215⟩:=own_stR X212 hx hZ e212 (V205s.ext E212) (j:=(1:Int32)) ⟨by decide,by decide⟩ rfl rfl (fun cl Ar q=>Sto.ofVA Ar q O194 (Ins.self EA212)) 1 rfl (Nat.le_of_ble_eq_true rfl) (g:=(mkF m 379 #[oR b10,oI 1,oI 2,oR b12,oR b15,oI 1,oI 0,oI 2,oR b144,oI 2,oI 2,oI 0,oI 2] [vR b212,vI 1,vR b194])) rfl rfl (hb hby d1_379)
  have K215:Keep h0 h215 [b10]:=K212.wr W215 (Or.inr sz_b194)
  have V215s:Arv Z h215 b194 k194 (.array .long) 2 [vR b202,vR b212] .null:=V215
  have N215:=Fr.snoc X215 N211 n_b194
  refine oJ 380 #[oR b10,oI 1,oI 2,oR b12,oR b15,oI 1,oI 0,oI 2,oR b144,oI 2,oI 2,oI 0,oI 2] [] st215 ?_
  have G216:=((((Fw198.ext E202).other W205 (Or.inl (oL PE2.lt sz_b194))).ext E212).other W215 (Or.inl (oL PE2.lt sz_b194)))
  refine oX2 a0 [b10,b12,b15,b144,b194,b202,b212] [0,0,0,0,k194,0,0] [fE1_43 0 (vR 4)] [] [] [4] 7 [oR 0,oI 1,oI 2,oR 1,oR 2,oI 1,oI 0,oI 2,oR 3,oI 2,oI 2,oI 0,oI 2] [] [(4,(.array .long),2,[vR 5,vR 6])] 405 [oR 0,oI 1,oI 2,oR 1,oR 2,oI 1,oI 0,oI 2,oR 3,oI 2,oI 2,oI 0,oI 2] [vI 0,vR 0,vI 1,vR 0,vI 0,vR 6] [] tt hZ hown X215 N215 e215 (oA (ow122 hw) trivial) trivial (oA G216 trivial) (oA V215s trivial) (Or.inl rfl) trivial rfl rfl (by decide +kernel) 14 (by decide +kernel) fun T217 h217 _ X217 N217 e217 K217 q217 M217=>?_
  have e217:=e217.trans (q217 rfl)
  refine oV 405 #[oR b10,oI 1,oI 2,oR b12,oR b15,oI 1,oI 0,oI 2,oR b144,oI 2,oI 2,oI 0,oI 2] [vI 0,vR b10,vI 1,vR b10,vI 0,vR b212] ?_
  have K218:Keep _ h215 [b144,x29b,x39b,b49,b10,b194]:=((((((Keep.trans (Keep.refl _ _) Kq184 (allS oI0 (allS oI1 (allS oI2 (allS oI3 all0))))).ext E194).wr W198 oI4).ext E202).wr W205 oI5).ext E212).wr W215 oI5
  have G219:=(((((((G179.keep Kq184 (ninS (oL PE2.lt sz_b144) (ninS (oL PE2.lt sz_x29b) (ninS (oL PE2.lt sz_x39b) (ninS (oL PE2.lt sz_b49) nin0))))).ext E194).other W198 (Or.inr (sn_93_123 hw))).ext E202).other W205 (Or.inl (oL PE2.lt sz_b194))).ext E212).other W215 (Or.inl (oL PE2.lt sz_b194)))
  have G220:=(((((((G180.keep Kq184 (ninS (oL PE2.lt sz_b144) (ninS (oL PE2.lt sz_x29b) (ninS (oL PE2.lt sz_x39b) (ninS (oL PE2.lt sz_b49) nin0))))).ext E194).other W198 (Or.inr (sn_95_123 hw))).ext E202).other W205 (Or.inl (oL PE2.lt sz_b194))).ext E212).other W215 (Or.inl (oL PE2.lt sz_b194)))
  have G221:=(((((((G181.keep Kq184 (ninS (oL PE2.lt sz_b144) (ninS (oL PE2.lt sz_x29b) (ninS (oL PE2.lt sz_x39b) (ninS (oL PE2.lt sz_b49) nin0))))).ext E194).other W198 (Or.inr (sn_97_123 hw))).ext E202).other W205 (Or.inl (oL PE2.lt sz_b194))).ext E212).other W215 (Or.inl (oL PE2.lt sz_b194)))
  have c222:=oT c151 m147
  have q223:=oL u40 (oT c222 sg_b144)
  have c224:=oT c222 m196
  have q225:=oL u40 (oT c224 sg_b194)
  have G226:=(G153.keep K218 (ninS q223 (ninS (Ne.symm nn_x29b_b29) (ninS (oL u40 sg_x39b) (ninS q148 (ninS (oM PE2.lt sz_b29) (ninS q225 nin0)))))))
  have q227:=oL u41 (oT c151 sg_b122)
  have q228:=oL u41 (oT m53 sg_b49)
  have q229:=oL u41 (oT c222 sg_b144)
  have q230:=oL u41 (oT c224 sg_b194)
  have G231:=((((V109_4.ext E122).keep Kq143 (ninS q227 nin0)).ext E144).keep K218 (ninS q229 (ninS (Ne.symm nn_x29b_x29a) (ninS (oL u41 sg_x39b) (ninS q228 (ninS (oM PE2.lt sz_x29a) (ninS q230 nin0)))))))
  have c232:=oT c170 m147
  have q233:=oL u50 (oT c232 sg_b144)
  have c234:=oT c232 m196
  have q235:=oL u50 (oT c234 sg_b194)
  have G236:=(G172.keep K218 (ninS q233 (ninS (oM u42 sg_b39) (ninS (Ne.symm nn_x39b_b39) (ninS (oL u50 sg_b49) (ninS (oM PE2.lt sz_b39) (ninS q235 nin0)))))))
  have q237:=oL u51 (oT c170 sg_b122)
  have q238:=oL u51 (oT c232 sg_b144)
  have q239:=oL u51 (oT c234 sg_b194)
  have G240:=((((V109_6.ext E122).keep Kq143 (ninS q237 nin0)).ext E144).keep K218 (ninS q238 (ninS (oM u42 sg_x39a) (ninS (Ne.symm nn_x39b_x39a) (ninS (oL u51 sg_b49) (ninS (oM PE2.lt sz_x39a) (ninS q239 nin0)))))))
  have c241:=oT c177 m147
  have c242:=oT c241 m196
  have q243:=oL u59 (oT c242 sg_b194)
  have G244:=((((((V184_7.ext E194).other W198 (oM PE2.lt sz_b49)).ext E202).other W205 q243).ext E212).other W215 q243)
  refine own_cP X217 hx hZ hown e217 (ow136 hw) (ow137 hw) (own_seli (mvT hZ (ow2 hw)) (Cond.privateMethod_at (mvP hZ (ow138 hw) (args:=#[]))) (mvT hZ (ow137 hw)) (by decide)) (ow138 hw) (ow3 hw) (ow139 hw) (((G34.keep K61).keep K166).keep K218) (y:=mn20) (argsL:=[vI 0]) (rest:=[vI 1,vR b10,vI 0,vR b212]) (W:=4) hml.symm (hb hby d1_405) (lenOf pd4 rfl) rfl (by decide) (rm19a34 l Z a0 hw [] b10 b29 b39 b49 k29 x29a x29b kc29 k39 x39a x39b kc39 k49 h215 n0 (oT (oT Zs209 E212.1) (Keep.of_wr W215).1) G219 G220 G221 G226 G231 G236 G240 G244) fun _ T245 _ X245 hQ245=>?_
  obtain ⟨rfl,N245q,hh245⟩:=hQ245
  have N245:=Fr.app N217 N245q
  obtain ⟨_,X245,N245⟩:=own_hide X245 N245
  refine oV 408 #[oR b10,oI 1,oI 2,oR b12,oR b15,oI 1,oI 0,oI 2,oR b144,oI 2,oI 2,oI 0,oI 2] [(.long (-4294967296:Int64)),vI 1,vR b10,vI 0,vR b212] ?_
  have q246:=oL u42 (oT c224 sg_b194)
  have G247:=((((((V184_4.ext E194).other W198 (oM PE2.lt sz_x29b)).ext E202).other W205 q246).ext E212).other W215 q246)
  have q248:=oL u52 (oT c234 sg_b194)
  have G249:=((((((V184_6.ext E194).other W198 (oM PE2.lt sz_x39b)).ext E202).other W205 q248).ext E212).other W215 q248)
  refine own_cV X245 hx hZ hown hh245 (ow140 hw) (ow127 hw) (notFace_of_selects (args:=#[]) (mvT hZ (ow129 hw))) (ow129 hw) (ow128 hw) (ow3 hw) (ow130 hw) (((G34.keep K61).keep K166).keep K218) (y:=mn18) (z:=mn18) (argsL:=[vI 1,(.long (-4294967296:Int64))]) (rest:=[vI 0,vR b212]) (W:=2) hml.symm (hb hby d1_408) (lenOf pd12 rfl) rfl (by decide) (rm17a35 l Z a0 hw [] b10 (-4294967296:Int64) b29 b39 k29 x29a x29b kc29 k39 x39a x39b kc39 h215 n0 (oT (oT Zs209 E212.1) (Keep.of_wr W215).1) G219 G220 G226 G247 G236 G249) fun _ T250 _ X250 hQ250=>?_
  obtain ⟨rfl,N250q,hh250⟩:=hQ250
  have N250:=Fr.app N245 N250q
  obtain ⟨_,X250,N250⟩:=own_hide X250 N250
  refine oV 411 #[oR b10,oI 1,oI 2,oR b12,oR b15,oI 1,oI 0,oI 2,oR b144,oI 2,oI 2,oI 0,oI 2] [(.long (4294967295:Int64)),vI 0,vR b212] ?_
  have q251:=oM u203 (oT m214 sg_b212)
  obtain ⟨T252,h252,X252,e252,W252,V252,st252⟩:=own_stJ X250 hx hZ hh250 (V_b212.other W215 q251) (j:=(0:Int32)) ⟨by decide,by decide⟩ 0 rfl (Nat.le_of_ble_eq_true rfl) (g:=(mkF m 411 #[oR b10,oI 1,oI 2,oR b12,oR b15,oI 1,oI 0,oI 2,oR b144,oI 2,oI 2,oI 0,oI 2] [(.long (4294967295:Int64)),vI 0,vR b212])) rfl rfl (hb hby d1_411)
  have K252:Keep h0 h252 [b10]:=K215.wr W252 (Or.inr sz_b212)
  have V252s:Arv Z h252 b212 k212 .long 1 [(.long (4294967295:Int64))] (.long (0:Int64)):=V252
  have N252:=Fr.snoc X252 N250 n_b212
  refine oH st252 X252 tt 9 361 #[oR b10,oI 1,oI 2,oR b12,oR b15,oI 2,oI 1,oI 2,oR b144,oI 2,oI 2,oI 0,oI 2] [vR b15,vI 2] rfl ?_
  have c253:=oT c206 m204
  have c254:=oT c253 m214
  have q255:=oL u21 (oT c254 sg_b212)
  have G256:=(((G208.ext E212).other W215 (Or.inl q207)).other W252 (Or.inl q255))
  refine own_cI X252 hx hZ hown e252 (ow82 hw) (ow83 hw) (mvT hZ (ow84 hw)) (ow85 hw) (ow86 hw) (ow87 hw) (ow88 hw) (ow54 hw) (ow13 hw) (ow89 hw) (((((G199.ext E202).wr W205).ext E212).wr W215).wr W252) (y:=mn11) (z:=mn10) (argsL:=[]) (rest:=[vI 2]) (W:=1) hml.symm (hb hby d1_361) (lenOf pd0 rfl) rfl (by decide) (rm12a25 l Z a0 hw [] b15 h252 n0 (oT (oT (oT Zs209 E212.1) (Keep.of_wr W215).1) (Keep.of_wr W252).1) G256) fun _ T257 _ X257 hQ257=>?_
  obtain ⟨rfl,N257q,hh257⟩:=hQ257
  have N257:=Fr.app N252 N257q
  obtain ⟨_,X257,N257⟩:=own_hide X257 N257
  refine oV 366 #[oR b10,oI 1,oI 2,oR b12,oR b15,oI 2,oI 1,oI 2,oR b144,oI 2,oI 2,oI 0,oI 2] [vI 2,vI 2] ?_
  refine oG X257 tt 1 424 #[oR b10,oI 1,oI 2,oR b12,oR b15,oI 2,oI 1,oI 2,oR b144,oI 2,oI 2,oI 0,oI 2] [] rfl ?_
  refine own_ret X257 (v:=none) (fun _=>rfl) Bs (fun fs hr=>X257.returnOut hx Br (hb hby d1_424) hr) ?_ (by decide) (by decide)
  unfold Q1a19
  have c258:=oT c224 m204
  have c259:=oT c258 m214
  have q260:=oL u40 (oT c259 sg_b212)
  have q261:=oL u41 (oT c259 sg_b212)
  have q262:=oL u42 (oT c259 sg_b212)
  have c263:=oT c234 m204
  have c264:=oT c263 m214
  have q265:=oL u50 (oT c264 sg_b212)
  have G266:=(((((((EE_b39.wr W45).ext E49).wr W55).ext E58).keep K166).keep K218).wr W252)
  have q267:=oL u51 (oT c264 sg_b212)
  have G268:=(((((((EE_x39a.wr W45).ext E49).wr W55).ext E58).keep K166).keep K218).wr W252)
  have q269:=oL u52 (oT c264 sg_b212)
  have G270:=(((((((EE_x39b.wr W45).ext E49).wr W55).ext E58).keep K166).keep K218).wr W252)
  rw [hh257]
  exact ⟨b29,k29,x29a,kc29,x29b,b39,k39,x39a,kc39,x39b,rfl,N257,K252,n_b29,sz_b29,n_x29a,sz_x29a,n_x29b,sz_x29b,n_b39,sz_b39,n_x39a,sz_x39a,n_x39b,sz_x39b,nn_x29a_b29,nn_x29b_b29,nn_x29b_x29a,(oM u40 sg_b39),(oM u41 sg_b39),(oM u42 sg_b39),(oM u40 sg_x39a),(oM u41 sg_x39a),(oM u42 sg_x39a),nn_x39a_b39,(oM u40 sg_x39b),(oM u41 sg_x39b),(oM u42 sg_x39b),nn_x39b_b39,nn_x39b_x39a,(G219.other W252 (Or.inl (oL PE2.lt sz_b212))),(G220.other W252 (Or.inl (oL PE2.lt sz_b212))),(G226.other W252 q260),O29,((((EE_b29.keep K61).keep K166).keep K218).wr W252),(G231.other W252 q261),((((EE_x29a.keep K61).keep K166).keep K218).wr W252),(G247.other W252 q262),((((EE_x29b.keep K61).keep K166).keep K218).wr W252),(G236.other W252 q265),O39,G266,(G240.other W252 q267),G268,(G249.other W252 q269),G270⟩
def Q17a36 (Z:State)(q2:Int64)(h0:Heap)(n0:Nat)(v:Option Value)(h:Heap)(L:List Loc):Prop:=v = some (.long (kf (kf 0 q2 32 32) q2 0 32))∧Fr n0 L∧h = h0
set_option maxRecDepth 65536 in
set_option maxHeartbeats 40000000 in
theorem rm17a36 (l:Launch)(Z:State)(a0:Array Value)(hw:HW a0 Z)(ws:List Jvm.Cond)(b5:Addr)(q2:Int64)(b6a b6f:Addr)(k6b:ClassId)(b6c b6e:Addr)(k6d k6g:ClassId)(b6h b6j:Addr)(k6i:ClassId)(h0:Heap)(n0:Nat)(Z0:n0≤h0.size)(PF3:oF3 Z h0 b5 (vR b6a))(PF4:oF4 Z h0 b5 (vR b6f))(PV7:Arv Z h0 b6a k6b (.array .int) 2 [vR b6c,vR b6e] .null)(PV9:Arv Z h0 b6c k6d .int 2 [vI 32,vI 0] (vI 0))(PV13:Arv Z h0 b6f k6g (.array .int) 2 [vR b6h,vR b6j] .null)(PV15:Arv Z h0 b6h k6i .int 2 [vI 32,vI 32] (vI 0)) :
    own_Met l mn18 prog_28_method_6_code 9 (some .long) ws (oRm 0 0 0 0) #[vR b5,vI 0,(.long q2)] Z h0 (Q17a36 Z q2 h0 n0):=by
  refine own_met (own:=oLy) rfl (plainFor_of_name pn_0) ?_
  intro p e s m below meth c s₁ hx hby hml hZ hown hnm X0 e0 Br Bs
  have N0:=Fr.nil n0
  have tt:=own_tt hx hby own_ok17
  refine oV 0 #[oR b5,oI 0,oQ q2,oS,oU,oU,oU,oU,oU] [] ?_
  refine oX3 a0 [b5,b6a,b6c,b6e,b6f,b6h,b6j] [0,k6b,k6d,0,k6g,k6i,0] [fE17_29 0 (vR 4),fE17_26 0 (vR 1)] [(86,(-1))] [] [4,5,1,2] 7 [oR 0,oI 0,oQ q2,oS,oU,oU,oU,oU,oU] [] [(4,(.array .int),2,[vR 5,vR 6]),(5,.int,2,[vI 32,vI 32]),(1,(.array .int),2,[vR 2,vR 3]),(2,.int,2,[vI 32,vI 0])] 73 [oR 0,oI 0,oQ q2,oS,oQ (kf (kf 0 q2 32 32) q2 0 32),oS,oI 2,oQ (kg q2 0 32),oS] [.long (kf (kf 0 q2 32 32) q2 0 32)] [] tt hZ hown X0 N0 e0 (oA (ow94 hw) (oA (ow92 hw) trivial)) (oA (ow131 hw) trivial) (oA PF4 (oA PF3 trivial)) (oA PV13 (oA PV15 (oA PV7 (oA PV9 trivial)))) (Or.inl rfl) trivial rfl rfl (by decide +kernel) _ (oC 11 18 [oR 0,oI 0,oQ q2,oS,oQ 0,oS,oI 0,oU,oU] [] rfl (oC 10 34 [oR 0,oI 0,oQ q2,oS,oQ 0,oS,oI 0,oU,oU] [vI 64,.long (-1),.long (kh q2 32)] rfl (oC 10 48 [oR 0,oI 0,oQ q2,oS,oQ 0,oS,oI 0,oQ (kg q2 32 32),oS] [] rfl (oC 11 65 [oR 0,oI 0,oQ q2,oS,oQ (kf 0 q2 32 32),oS,oI 0,oQ (kg q2 32 32),oS] [] rfl (oC 9 18 [oR 0,oI 0,oQ q2,oS,oQ (kf 0 q2 32 32),oS,oI 1,oQ (kg q2 32 32),oS] [] rfl (oC 10 34 [oR 0,oI 0,oQ q2,oS,oQ (kf 0 q2 32 32),oS,oI 1,oQ (kg q2 32 32),oS] [vI 64,.long (-1),.long (kh q2 0)] rfl (oC 10 48 [oR 0,oI 0,oQ q2,oS,oQ (kf 0 q2 32 32),oS,oI 1,oQ (kg q2 0 32),oS] [] rfl (oC 11 65 [oR 0,oI 0,oQ q2,oS,oQ (kf (kf 0 q2 32 32) q2 0 32),oS,oI 1,oQ (kg q2 0 32),oS] [] (n2:=10) rfl rfl)))))))) fun T8 h8 _ X8 N8 e8 K8 q8 M8=>?_
  have e8:=e8.trans (q8 rfl)
  refine oV 73 #[oR b5,oI 0,oQ q2,oS,oQ (kf (kf 0 q2 32 32) q2 0 32),oS,oI 2,oQ (kg q2 0 32),oS] [(.long (kf (kf 0 q2 32 32) q2 0 32))] ?_
  refine own_ret X8 (v:=some (.long (kf (kf 0 q2 32 32) q2 0 32))) (oN Br) Bs (fun fs hr=>own_retL X8 hx Br (hb hby d17_73) hr) ?_ (by decide) (by decide)
  unfold Q17a36
  exact ⟨rfl,N8,e8⟩
def Q18a37 (Z:State)(q2:Int64)(h0:Heap)(n0:Nat)(v:Option Value)(h:Heap)(L:List Loc):Prop:=v = some (.long q2)∧Fr n0 L∧h = h0
set_option maxRecDepth 65536 in
set_option maxHeartbeats 40000000 in
theorem rm18a37 (l:Launch)(Z:State)(a0:Array Value)(hw:HW a0 Z)(ws:List Jvm.Cond)(q2:Int64)(h0:Heap)(n0:Nat)(Z0:n0≤h0.size) :
    own_Met l mn19 method_3_code 12 (some .long) ws (oRm 0 0 0 0) #[vI 1,vI 0,(.long q2)] Z h0 (Q18a37 Z q2 h0 n0):=by
  refine own_met (own:="com/example/libakin/libakin/simhash/LayoutKeyPinLaw") rfl (plainFor_of_name pn_1) ?_
  intro p e s m below meth c s₁ hx hby hml hZ hown hnm X0 e0 Br Bs
  have N0:=Fr.nil n0
  have tt:=own_tt hx hby own_ok18
  refine oV 0 #[oI 1,oI 0,oQ q2,oS,oU,oU,oU,oU,oU,oU,oU,oU] [] ?_
  refine oG X0 tt 3 5 #[oI 1,oI 0,oQ q2,oS,oU,oU,oU,oU,oU,oU,oU,oU] [(.long q2)] rfl ?_
  refine own_ret X0 (v:=some (.long q2)) (oN Br) Bs (fun fs hr=>own_retL X0 hx Br (hb hby d18_5) hr) ?_ (by decide) (by decide)
  unfold Q18a37
  exact ⟨rfl,N0,e0⟩
theorem d18_20:decode method_3_code 20 = .ok (.lreturn,1):=by decide +kernel
def Q18a38 (Z:State)(q2:Int64)(h0:Heap)(n0:Nat)(v:Option Value)(h:Heap)(L:List Loc):Prop:=v = some (.long ((q2 <<< ((32:Int32) &&& 0x3f).toInt64) ||| ((q2.toUInt64 >>> ((32:Int32) &&& 0x3f).toInt64.toUInt64).toInt64)))∧Fr n0 L∧h = h0
set_option maxRecDepth 65536 in
set_option maxHeartbeats 40000000 in
theorem rm18a38 (l:Launch)(Z:State)(a0:Array Value)(hw:HW a0 Z)(ws:List Jvm.Cond)(q2:Int64)(h0:Heap)(n0:Nat)(Z0:n0≤h0.size) :
    own_Met l mn19 method_3_code 12 (some .long) ws (oRm 0 0 0 0) #[vI 1,vI 1,(.long q2)] Z h0 (Q18a38 Z q2 h0 n0):=by
  refine own_met (own:="com/example/libakin/libakin/simhash/LayoutKeyPinLaw") rfl (plainFor_of_name pn_1) ?_
  intro p e s m below meth c s₁ hx hby hml hZ hown hnm X0 e0 Br Bs
  have N0:=Fr.nil n0
  have tt:=own_tt hx hby own_ok18
  refine oV 0 #[oI 1,oI 1,oQ q2,oS,oU,oU,oU,oU,oU,oU,oU,oU] [] ?_
  refine oG X0 tt 12 20 #[oI 1,oI 1,oQ q2,oS,oU,oU,oU,oU,oU,oU,oU,oU] [(.long ((q2 <<< ((32:Int32) &&& 0x3f).toInt64) ||| ((q2.toUInt64 >>> ((32:Int32) &&& 0x3f).toInt64.toUInt64).toInt64)))] rfl ?_
  refine own_ret X0 (v:=some (.long ((q2 <<< ((32:Int32) &&& 0x3f).toInt64) ||| ((q2.toUInt64 >>> ((32:Int32) &&& 0x3f).toInt64.toUInt64).toInt64)))) (oN Br) Bs (fun fs hr=>own_retL X0 hx Br (hb hby d18_20) hr) ?_ (by decide) (by decide)
  unfold Q18a38
  exact ⟨rfl,N0,e0⟩
def Q6a42 (Z:State)(b3:Addr)(k4:ClassId)(h0:Heap)(n0:Nat)(v:Option Value)(h:Heap)(L:List Loc):Prop:=∃ (b5a:Addr)(k5b:ClassId)(b6:Addr),v = none∧Fr n0 L∧Keep h0 h [b3]∧n0≤b5a∧h0.size≤b5a∧n0≤b6∧h0.size≤b6∧b6≠b5a∧oF0 Z h b3 (vI 1)∧oF1 Z h b3 (vR b5a)∧oF2 Z h b3 (vI 1)∧Arv Z h b5a k5b (.object oOb) 10 [vR b6,.null,.null,.null,.null,.null,.null,.null,.null,.null] .null∧Ovr Z k5b oOb∧Arv Z h b6 k4 .int 2 [vI 0,vI 1] (vI 0)∧Exa Z h b6 "[I"
set_option maxRecDepth 65536 in
set_option maxHeartbeats 40000000 in
theorem rm6a42 (l:Launch)(Z:State)(a0:Array Value)(hw:HW a0 Z)(ws:List Jvm.Cond)(b5 b6 wd:Addr)(kd k5:ClassId)(h0:Heap)(n0:Nat)(Z0:n0≤h0.size)(PS0:Sta Z h0 "java/util/ArrayList" "DEFAULTCAPACITY_EMPTY_ELEMENTDATA" "[Ljava/lang/Object;" (vR wd))(PV1:Arv Z h0 wd kd (.object oOb) 0 [] .null)(PE9:Exa Z h0 b6 "java/util/ArrayList")(PF10:oF0 Z h0 b6 (vI 0))(PF11:oF1 Z h0 b6 (vR wd))(PF12:oF2 Z h0 b6 (vI 0))(PV13:Arv Z h0 b5 k5 .int 2 [vI 0,vI 1] (vI 0))(PE14:Exa Z h0 b5 "[I")(ne_wd_b6:wd≠b6)(n_b6:n0≤b6) :
    own_Met l mn9 prog_28_method_10_code 7 none ws (oRm 5 2 12 69) #[vI 3,vI 2,vI 2,vR b5,vI 2,vR b6] Z h0 (Q6a42 Z b6 k5 h0 n0):=by
  refine own_met (own:=oLy) rfl (plainFor_of_name pn_0) ?_
  intro p e s m below meth c s₁ hx hby hml hZ hown hnm X0 e0 Br Bs
  have N0:=Fr.nil n0
  have tt:=own_tt hx hby own_ok6
  refine oV 0 #[oI 3,oI 2,oI 2,oR b5,oI 2,oR b6,oU] [] ?_
  refine oG X0 tt 5 9 #[oI 3,oI 2,oI 2,oR b5,oI 2,oR b6,oU] [vR b5,vR b6] rfl ?_
  obtain ⟨T7,h7,X7,e7,E7,A7,EA7,st7⟩:=cloneH X0 hx hZ hown (ow38 hw) (ow39 hw) (ow43 hw) (ow41 hw) (ow42 hw) (ow44 hw) e0 (hs:=[]) PV13 PE14 (g:=(mkF m 9 #[oI 3,oI 2,oI 2,oR b5,oI 2,oR b6,oU] [vR b5,vR b6])) rfl hml.symm rfl (hb hby d6_9) (by decide) (W:=1) (cap:=2) (oZ rfl) (by decide) (by decide) (by decide) (by decide)
  obtain ⟨b7,g_b7⟩:∃ z,z = h0.size:=⟨_,rfl⟩
  have sg_b7:h0.size≤b7:=Nat.le_of_eq g_b7.symm
  rw [← g_b7] at A7 EA7 st7
  have n_b7:=oT Z0 sg_b7
  have sz_b7:=oT (Keep.refl h0 [b6]).1 sg_b7
  have K7:Keep h0 h7 [b6]:=(Keep.refl h0 [b6]).ext E7
  have V_b7:Arv Z h7 b7 k5 .int 2 [vI 0,vI 1] (vI 0):=A7
  refine oJ 12 #[oI 3,oI 2,oI 2,oR b5,oI 2,oR b6,oU] [vR b7,vR b6] st7 ?_
  obtain ⟨T8,X8,e8,st8⟩:=castY X7 hx hZ hown (ow45 hw) e7 (Ins.self EA7) (g:=(mkF m 12 #[oI 3,oI 2,oI 2,oR b5,oI 2,oR b6,oU] [vR b7,vR b6])) rfl rfl (hb hby d6_12)
  refine oJ 15 #[oI 3,oI 2,oI 2,oR b5,oI 2,oR b6,oU] [vR b7,vR b6] st8 ?_
  refine own_cI X8 hx hZ hown e8 (ow47 hw) (ow48 hw) (mvT hZ (ow49 hw)) (ow50 hw) (ow51 hw) (ow52 hw) (ow53 hw) (ow54 hw) (ow13 hw) (ow55 hw) (PE9.ext E7) (y:=mn8) (z:=mn7) (argsL:=[vR b7]) (rest:=[]) (W:=0) hml.symm (hb hby d6_15) (lenOf pd13 rfl) rfl (by decide) (rm7a7 l Z a0 hw [] b6 b7 wd kd h7 n0 (oT Z0 E7.1) (PS0.ext E7) (PV1.ext E7) (PE9.ext E7) (PF10.ext E7) (PF11.ext E7) (PF12.ext E7) EA7 ne_wd_b6 n_b6) fun _ T15 _ X15 hQ15=>?_
  obtain ⟨b15a,k15b,rfl,N15q,K15,n_b15a,sg_b15a,g15_0,g15_1,g15_2,g15_3,g15_4⟩:=hQ15
  have N15:=Fr.app N0 N15q
  have sz_b15a:=oT K7.1 sg_b15a
  have u16:b7 < h7.size:=V_b7.lt
  have m17:h0.size≤h7.size:=(oT (Nat.le_refl _) E7.1)
  have eK15:T15.heap = T15.heap:=rfl
  have KK15:Keep h0 T15.heap [b6]:=Keep.trans K7 K15 (allS oI0 all0)
  obtain ⟨_,X15,N15⟩:=own_hide X15 N15
  refine oV 20 #[oI 3,oI 2,oI 2,oR b5,oI 2,oR b6,oU] [vI 1] ?_
  refine oG X15 tt 2 66 #[oI 3,oI 2,oI 2,oR b5,oI 2,oR b6,oU] [] rfl ?_
  refine own_ret X15 (v:=none) (fun _=>rfl) Bs (fun fs hr=>X15.returnOut hx Br (hb hby d6_66) hr) ?_ (by decide) (by decide)
  unfold Q6a42
  rw [eK15]
  exact ⟨b15a,k15b,b7,rfl,N15,KK15,n_b15a,sz_b15a,n_b7,sz_b7,(oL u16 sg_b15a),g15_0,g15_1,g15_2,g15_3,g15_4,(V_b7.keep K15 (ninS (oM PE9.lt sz_b7) nin0)),(EA7.keep K15)⟩
def Q6a43 (Z:State)(b3 b4a:Addr)(k5 k4b:ClassId)(b4c:Addr)(h0:Heap)(n0:Nat)(v:Option Value)(h:Heap)(L:List Loc):Prop:=∃ (b6:Addr),v = none∧Fr n0 L∧Keep h0 h [b4a,b3]∧n0≤b6∧h0.size≤b6∧Arv Z h b4a k4b (.object oOb) 10 [vR b4c,vR b6,.null,.null,.null,.null,.null,.null,.null,.null] .null∧oF0 Z h b3 (vI 2)∧oF1 Z h b3 (vR b4a)∧oF2 Z h b3 (vI 2)∧Arv Z h b6 k5 .int 2 [vI 0,vI 2] (vI 0)∧Exa Z h b6 "[I"
set_option maxRecDepth 65536 in
set_option maxHeartbeats 40000000 in
theorem rm6a43 (l:Launch)(Z:State)(a0:Array Value)(hw:HW a0 Z)(ws:List Jvm.Cond)(b4 b5 b6a:Addr)(k4 k6b:ClassId)(b6c:Addr)(h0:Heap)(n0:Nat)(Z0:n0≤h0.size)(PE9:Exa Z h0 b5 "java/util/ArrayList")(PF10:oF0 Z h0 b5 (vI 1))(PF11:oF1 Z h0 b5 (vR b6a))(PF12:oF2 Z h0 b5 (vI 1))(PV13:Arv Z h0 b4 k4 .int 2 [vI 0,vI 2] (vI 0))(PE14:Exa Z h0 b4 "[I")(PV15:Arv Z h0 b6a k6b (.object oOb) 10 [vR b6c,.null,.null,.null,.null,.null,.null,.null,.null,.null] .null)(ov_b6a:Ovr Z k6b oOb)(ne_b5_b6a:b5≠b6a)(ne_b6a_b5:b6a≠b5)(n_b5:n0≤b5)(n_b6a:n0≤b6a) :
    own_Met l mn9 prog_28_method_10_code 7 none ws (oRm 2 1 2 28) #[vI 3,vI 2,vI 3,vR b4,vI 2,vR b5] Z h0 (Q6a43 Z b5 b6a k4 k6b b6c h0 n0):=by
  refine own_met (own:=oLy) rfl (plainFor_of_name pn_0) ?_
  intro p e s m below meth c s₁ hx hby hml hZ hown hnm X0 e0 Br Bs
  have N0:=Fr.nil n0
  have tt:=own_tt hx hby own_ok6
  refine oV 0 #[oI 3,oI 2,oI 3,oR b4,oI 2,oR b5,oU] [] ?_
  refine oG X0 tt 5 9 #[oI 3,oI 2,oI 3,oR b4,oI 2,oR b5,oU] [vR b4,vR b5] rfl ?_
  obtain ⟨T7,h7,X7,e7,E7,A7,EA7,st7⟩:=cloneH X0 hx hZ hown (ow38 hw) (ow39 hw) (ow43 hw) (ow41 hw) (ow42 hw) (ow44 hw) e0 (hs:=[]) PV13 PE14 (g:=(mkF m 9 #[oI 3,oI 2,oI 3,oR b4,oI 2,oR b5,oU] [vR b4,vR b5])) rfl hml.symm rfl (hb hby d6_9) (by decide) (W:=1) (cap:=2) (oZ rfl) (by decide) (by decide) (by decide) (by decide)
  obtain ⟨b7,g_b7⟩:∃ z,z = h0.size:=⟨_,rfl⟩
  have sg_b7:h0.size≤b7:=Nat.le_of_eq g_b7.symm
  rw [← g_b7] at A7 EA7 st7
  have n_b7:=oT Z0 sg_b7
  have sz_b7:=oT (Keep.refl h0 [b6a,b5]).1 sg_b7
  have K7:Keep h0 h7 [b6a,b5]:=(Keep.refl h0 [b6a,b5]).ext E7
  have V_b7:Arv Z h7 b7 k4 .int 2 [vI 0,vI 2] (vI 0):=A7
  refine oJ 12 #[oI 3,oI 2,oI 3,oR b4,oI 2,oR b5,oU] [vR b7,vR b5] st7 ?_
  obtain ⟨T8,X8,e8,st8⟩:=castY X7 hx hZ hown (ow45 hw) e7 (Ins.self EA7) (g:=(mkF m 12 #[oI 3,oI 2,oI 3,oR b4,oI 2,oR b5,oU] [vR b7,vR b5])) rfl rfl (hb hby d6_12)
  refine oJ 15 #[oI 3,oI 2,oI 3,oR b4,oI 2,oR b5,oU] [vR b7,vR b5] st8 ?_
  refine own_cI X8 hx hZ hown e8 (ow47 hw) (ow48 hw) (mvT hZ (ow49 hw)) (ow50 hw) (ow51 hw) (ow52 hw) (ow53 hw) (ow54 hw) (ow13 hw) (ow55 hw) (PE9.ext E7) (y:=mn8) (z:=mn7) (argsL:=[vR b7]) (rest:=[]) (W:=0) hml.symm (hb hby d6_15) (lenOf pd13 rfl) rfl (by decide) (rm7a23 l Z a0 hw [] b5 b7 b6a k6b b6c h7 n0 (oT Z0 E7.1) (PE9.ext E7) (PF10.ext E7) (PF11.ext E7) (PF12.ext E7) (PV15.ext E7) EA7 ov_b6a ne_b5_b6a ne_b6a_b5 n_b5 n_b6a) fun _ T16 _ X16 hQ16=>?_
  obtain ⟨rfl,N16q,K16,g16_0,g16_1,g16_2,g16_3⟩:=hQ16
  have N16:=Fr.app N0 N16q
  have eK16:T16.heap = T16.heap:=rfl
  have KK16:Keep h0 T16.heap [b6a,b5]:=Keep.trans K7 K16 (allS oI1 (allS oI0 all0))
  obtain ⟨_,X16,N16⟩:=own_hide X16 N16
  refine oV 20 #[oI 3,oI 2,oI 3,oR b4,oI 2,oR b5,oU] [vI 1] ?_
  refine oG X16 tt 2 66 #[oI 3,oI 2,oI 3,oR b4,oI 2,oR b5,oU] [] rfl ?_
  refine own_ret X16 (v:=none) (fun _=>rfl) Bs (fun fs hr=>X16.returnOut hx Br (hb hby d6_66) hr) ?_ (by decide) (by decide)
  unfold Q6a43
  have G17:=(V_b7.keep K16 (ninS (oM PE9.lt sz_b7) (ninS (oM PV15.lt sz_b7) nin0)))
  rw [eK16]
  exact ⟨b7,rfl,N16,KK16,n_b7,sz_b7,g16_3,g16_0,g16_1,g16_2,G17,(EA7.keep K16)⟩
def Q6a41 (Z:State)(b3 b4:Addr)(k3:ClassId)(h0:Heap)(n0:Nat)(v:Option Value)(h:Heap)(L:List Loc):Prop:=∃ (b5a:Addr)(k5b:ClassId)(b5c b6a:Addr),v = none∧Fr n0 L∧Keep h0 h [b3,b4]∧n0≤b5a∧h0.size≤b5a∧n0≤b5c∧h0.size≤b5c∧n0≤b6a∧h0.size≤b6a∧b5c≠b5a∧b6a≠b5a∧b6a≠b5c∧Arv Z h b3 k3 .int 2 [vI 0,vI 2] (vI 0)∧oF0 Z h b4 (vI 2)∧oF1 Z h b4 (vR b5a)∧oF2 Z h b4 (vI 2)∧Arv Z h b5a k5b (.object oOb) 10 [vR b5c,vR b6a,.null,.null,.null,.null,.null,.null,.null,.null] .null∧Ovr Z k5b oOb∧Arv Z h b5c k3 .int 2 [vI 0,vI 1] (vI 0)∧Exa Z h b5c "[I"∧Arv Z h b6a k3 .int 2 [vI 0,vI 2] (vI 0)∧Exa Z h b6a "[I"
set_option maxRecDepth 65536 in
set_option maxHeartbeats 40000000 in
theorem rm6a41 (l:Launch)(Z:State)(a0:Array Value)(hw:HW a0 Z)(ws:List Jvm.Cond)(b7 b8 wd:Addr)(kd k7:ClassId)(h0:Heap)(n0:Nat)(Z0:n0≤h0.size)(PS0:Sta Z h0 "java/util/ArrayList" "DEFAULTCAPACITY_EMPTY_ELEMENTDATA" "[Ljava/lang/Object;" (vR wd))(PV1:Arv Z h0 wd kd (.object oOb) 0 [] .null)(PE9:Exa Z h0 b8 "java/util/ArrayList")(PF10:oF0 Z h0 b8 (vI 0))(PF11:oF1 Z h0 b8 (vR wd))(PF12:oF2 Z h0 b8 (vI 0))(PV13:Arv Z h0 b7 k7 .int 2 [vI 0,vI 0] (vI 0))(PE14:Exa Z h0 b7 "[I")(ne_wd_b8:wd≠b8)(ne_wd_b7:wd≠b7)(ne_b8_b7:b8≠b7)(ne_b7_b8:b7≠b8)(n_b7:n0≤b7)(n_b8:n0≤b8) :
    own_Met l mn9 prog_28_method_10_code 7 none ws (oRm 6 3 14 87) #[vI 3,vI 2,vI 1,vR b7,vI 1,vR b8] Z h0 (Q6a41 Z b7 b8 k7 h0 n0):=by
  refine own_met (own:=oLy) rfl (plainFor_of_name pn_0) ?_
  intro p e s m below meth c s₁ hx hby hml hZ hown hnm X0 e0 Br Bs
  have N0:=Fr.nil n0
  have tt:=own_tt hx hby own_ok6
  refine oV 0 #[oI 3,oI 2,oI 1,oR b7,oI 1,oR b8,oU] [] ?_
  refine oG X0 tt 15 43 #[oI 3,oI 2,oI 1,oR b7,oI 1,oR b8,oI 1] [vI 1,vI 1,vR b7] rfl ?_
  obtain ⟨T15,h15,X15,e15,W15,V15,st15⟩:=own_stI X0 hx hZ e0 PV13 (j:=(1:Int32)) ⟨by decide,by decide⟩ 1 rfl (Nat.le_of_ble_eq_true rfl) (g:=(mkF m 43 #[oI 3,oI 2,oI 1,oR b7,oI 1,oR b8,oI 1] [vI 1,vI 1,vR b7])) rfl rfl (hb hby d6_43)
  have K15:Keep h0 h15 [b7,b8]:=(Keep.refl h0 [b7,b8]).wr W15 oI0
  have V15s:Arv Z h15 b7 k7 .int 2 [vI 0,vI 1] (vI 0):=V15
  have N15:=Fr.snoc X15 N0 n_b7
  refine oH st15 X15 tt 10 57 #[oI 3,oI 2,oI 1,oR b7,oI 1,oR b8,oI 1] [vR b8,vI 2,vR b7,vI 2,vI 2,vI 3] rfl ?_
  refine own_cS X15 hx hZ hown e15 (ow35 hw) (ow36 hw) (ow3 hw) (ow37 hw) (y:=mn9) (argsL:=[vI 3,vI 2,vI 2,vR b7,vI 2,vR b8]) (rest:=[]) (W:=0) hml.symm (hb hby d6_57) (lenOf pd9 rfl) rfl (by decide) (rm6a42 l Z a0 hw [] b7 b8 wd kd k7 h15 n0 (oT Z0 (Keep.of_wr W15).1) (PS0.wr W15) (PV1.other W15 ne_wd_b7) (PE9.wr W15) (PF10.other W15 (Or.inl ne_b8_b7)) (PF11.other W15 (Or.inl ne_b8_b7)) (PF12.other W15 (Or.inl ne_b8_b7)) V15s (PE14.wr W15) ne_wd_b8 n_b8) fun _ T16 _ X16 hQ16=>?_
  obtain ⟨b16a,k16b,b16c,rfl,N16q,K16,n_b16a,sg_b16a,n_b16c,sg_b16c,ne16_0,g16_0,g16_1,g16_2,g16_3,g16_4,g16_5,g16_6⟩:=hQ16
  have N16:=Fr.app N15 N16q
  have sz_b16a:=oT K15.1 sg_b16a
  have sz_b16c:=oT K15.1 sg_b16c
  have eK16:T16.heap = T16.heap:=rfl
  have KK16:Keep h0 T16.heap [b7,b8]:=Keep.trans K15 K16 (allS oI1 all0)
  obtain ⟨_,X16,N16⟩:=own_hide X16 N16
  refine oV 60 #[oI 3,oI 2,oI 1,oR b7,oI 1,oR b8,oI 1] [] ?_
  refine oG X16 tt 12 43 #[oI 3,oI 2,oI 1,oR b7,oI 1,oR b8,oI 2] [vI 2,vI 1,vR b7] rfl ?_
  obtain ⟨T17,h17,X17,e17,W17,V17,st17⟩:=own_stI X16 hx hZ eK16 (V15s.keep K16 (ninS ne_b7_b8 nin0)) (j:=(1:Int32)) ⟨by decide,by decide⟩ 1 rfl (Nat.le_of_ble_eq_true rfl) (g:=(mkF m 43 #[oI 3,oI 2,oI 1,oR b7,oI 1,oR b8,oI 2] [vI 2,vI 1,vR b7])) rfl rfl (hb hby d6_43)
  have K17:Keep h0 h17 [b7,b8]:=KK16.wr W17 oI0
  have V17s:Arv Z h17 b7 k7 .int 2 [vI 0,vI 2] (vI 0):=V17
  have N17:=Fr.snoc X17 N16 n_b7
  refine oH st17 X17 tt 10 57 #[oI 3,oI 2,oI 1,oR b7,oI 1,oR b8,oI 2] [vR b8,vI 2,vR b7,vI 3,vI 2,vI 3] rfl ?_
  refine own_cS X17 hx hZ hown e17 (ow35 hw) (ow36 hw) (ow3 hw) (ow37 hw) (y:=mn9) (argsL:=[vI 3,vI 2,vI 3,vR b7,vI 2,vR b8]) (rest:=[]) (W:=0) hml.symm (hb hby d6_57) (lenOf pd9 rfl) rfl (by decide) (rm6a43 l Z a0 hw [] b7 b8 b16a k7 k16b b16c h17 n0 (oT (oT (oT Z0 (Keep.of_wr W15).1) K16.1) (Keep.of_wr W17).1) (((PE9.wr W15).keep K16).wr W17) (g16_0.other W17 (Or.inl ne_b8_b7)) (g16_1.other W17 (Or.inl ne_b8_b7)) (g16_2.other W17 (Or.inl ne_b8_b7)) V17s (((PE14.wr W15).keep K16).wr W17) (g16_3.other W17 (oM PV13.lt sz_b16a)) g16_4 (oL PE9.lt sz_b16a) (oM PE9.lt sz_b16a) n_b8 n_b16a) fun _ T18 _ X18 hQ18=>?_
  obtain ⟨b18a,rfl,N18q,K18,n_b18a,sg_b18a,g18_0,g18_1,g18_2,g18_3,g18_4,g18_5⟩:=hQ18
  have N18:=Fr.app N17 N18q
  have sz_b18a:=oT K17.1 sg_b18a
  have u19:=(oW g16_3.lt (Keep.of_wr W17).1)
  have u20:=(oW g16_5.lt (Keep.of_wr W17).1)
  have m21:h15.size≤h17.size:=(oT (oT (Nat.le_refl _) K16.1) (Keep.of_wr W17).1)
  have eK18:T18.heap = T18.heap:=rfl
  have KK18:Keep h0 T18.heap [b7,b8]:=Keep.trans K17 K18 (allS (Or.inr sz_b16a) (allS oI1 all0))
  obtain ⟨_,X18,N18⟩:=own_hide X18 N18
  refine oV 60 #[oI 3,oI 2,oI 1,oR b7,oI 1,oR b8,oI 2] [] ?_
  refine oG X18 tt 9 66 #[oI 3,oI 2,oI 1,oR b7,oI 1,oR b8,oI 3] [] rfl ?_
  refine own_ret X18 (v:=none) (fun _=>rfl) Bs (fun fs hr=>X18.returnOut hx Br (hb hby d6_66) hr) ?_ (by decide) (by decide)
  unfold Q6a41
  have G22:=(V17s.keep K18 (ninS (oL PV13.lt sz_b16a) (ninS ne_b7_b8 nin0)))
  have G23:=((g16_5.other W17 (oM PV13.lt sz_b16c)).keep K18 (ninS ne16_0 (ninS (oM PE9.lt sz_b16c) nin0)))
  rw [eK18]
  exact ⟨b16a,k16b,b16c,b18a,rfl,N18,KK18,n_b16a,sz_b16a,n_b16c,sz_b16c,n_b18a,sz_b18a,ne16_0,(oM u19 sg_b18a),(oM u20 sg_b18a),G22,g18_1,g18_2,g18_3,g18_0,g16_4,G23,((g16_6.wr W17).keep K18),g18_4,g18_5⟩
def Q8a47 (Z:State)(b3 b4 b5a:Addr)(k5b:ClassId)(b5c b5d:Addr)(h0:Heap)(n0:Nat)(v:Option Value)(h:Heap)(L:List Loc):Prop:=v = none∧Fr n0 L∧Keep h0 h [b5a,b3]∧Arv Z h b5a k5b (.object oOb) 10 [vR b5c,vR b5d,vR b4,.null,.null,.null,.null,.null,.null,.null] .null∧oF0 Z h b3 (vI 3)∧oF1 Z h b3 (vR b5a)∧oF2 Z h b3 (vI 3)
set_option maxRecDepth 65536 in
set_option maxHeartbeats 40000000 in
theorem rm8a47 (l:Launch)(Z:State)(a0:Array Value)(hw:HW a0 Z)(ws:List Jvm.Cond)(b3 b4 b5a:Addr)(k5b:ClassId)(b5c b5d:Addr)(h0:Heap)(n0:Nat)(Z0:n0≤h0.size)(PE9:Exa Z h0 b3 "java/util/ArrayList")(PF10:oF0 Z h0 b3 (vI 3))(PF11:oF1 Z h0 b3 (vR b5a))(PF12:oF2 Z h0 b3 (vI 2))(PV15:Arv Z h0 b5a k5b (.object oOb) 10 [vR b5c,vR b5d,.null,.null,.null,.null,.null,.null,.null,.null] .null)(PE21:Exa Z h0 b4 "[I")(ov_b5a:Ovr Z k5b oOb)(ne_b3_b5a:b3≠b5a)(ne_b5a_b3:b5a≠b3)(n_b3:n0≤b3)(n_b5a:n0≤b5a) :
    own_Met l mn6 jdk_38_method_24_code 4 none ws (oRm 0 0 0 0) #[vR b3,vR b4,vR b5a,vI 2] Z h0 (Q8a47 Z b3 b4 b5a k5b b5c b5d h0 n0):=by
  refine own_met (own:="java/util/ArrayList") rfl (plainFor_of_name pn_6) ?_
  intro p e s m below meth c s₁ hx hby hml hZ hown hnm X0 e0 Br Bs
  have N0:=Fr.nil n0
  have tt:=own_tt hx hby own_ok8
  refine oV 0 #[oR b3,oR b4,oR b5a,oI 2] [] ?_
  refine oX2 a0 [b3,b5a,b5c,b5d,b4] [0,k5b,0,0,0] [] [] [] [1] 5 [oR 0,oR 4,oR 1,oI 2] [] [(1,(.object oOb),10,[vR 2,vR 3,.null,.null,.null,.null,.null,.null,.null,.null])] 14 [oR 0,oR 4,oR 1,oI 2] [vR 4,vI 2,vR 1] [] tt hZ hown X0 N0 e0 trivial trivial trivial (oA PV15 trivial) (Or.inl rfl) trivial rfl rfl (by decide +kernel) 7 (by decide +kernel) fun T6 h6 _ X6 N6 e6 K6 q6 M6=>?_
  have e6:=e6.trans (q6 rfl)
  refine oV 14 #[oR b3,oR b4,oR b5a,oI 2] [vR b4,vI 2,vR b5a] ?_
  obtain ⟨T7,h7,X7,e7,W7,V7,st7⟩:=own_stR X6 hx hZ e6 PV15 (j:=(2:Int32)) ⟨by decide,by decide⟩ rfl rfl (fun cl Ar q=>Sto.ofV Ar q ov_b5a (Ins.of_exa PE21 (ow81 hw))) 2 rfl (Nat.le_of_ble_eq_true rfl) (g:=(mkF m 14 #[oR b3,oR b4,oR b5a,oI 2] [vR b4,vI 2,vR b5a])) rfl rfl (hb hby d8_14)
  have K7:Keep h0 h7 [b5a,b3]:=(Keep.refl h0 [b5a,b3]).wr W7 oI0
  have V7s:Arv Z h7 b5a k5b (.object oOb) 10 [vR b5c,vR b5d,vR b4,.null,.null,.null,.null,.null,.null,.null] .null:=V7
  have N7:=Fr.snoc X7 N6 n_b5a
  refine oH st7 X7 tt 4 19 #[oR b3,oR b4,oR b5a,oI 2] [vI 3,vR b3] rfl ?_
  obtain ⟨T8,h8,X8,e8,W8,st8⟩:=putF X7 hx hZ hown (host:="") (Or.inl (ow58 hw)) Via.refl e7 (PF12.other W7 (Or.inl ne_b3_b5a)) (PE9.wr W7) (Or.inl (ow59 hw)) (ow12 hw) (ty:=.int) (by decide) rfl rfl (g:=(mkF m 19 #[oR b3,oR b4,oR b5a,oI 2] [vI 3,vR b3])) rfl rfl (hb hby d8_19)
  have Fw8:=Fld.same W8 (PF12.other W7 (Or.inl ne_b3_b5a))
  have K8:Keep h0 h8 [b5a,b3]:=K7.wr W8 oI1
  have N8:=Fr.snoc X8 N7 n_b3
  refine oJ 22 #[oR b3,oR b4,oR b5a,oI 2] [] st8 ?_
  refine own_ret X8 (v:=none) (fun _=>rfl) Bs (fun fs hr=>X8.returnOut hx Br (hb hby d8_22) hr) ?_ (by decide) (by decide)
  unfold Q8a47
  have G13:=((PF10.other W7 (Or.inl ne_b3_b5a)).other W8 (Or.inr (sn_31_59 hw)))
  have G14:=((PF11.other W7 (Or.inl ne_b3_b5a)).other W8 (Or.inr (sn_34_59 hw)))
  rw [e8]
  exact ⟨rfl,N8,K8,(V7s.other W8 ne_b5a_b3),G13,G14,Fw8⟩
def Q7a46 (Z:State)(b3 b4 b5a:Addr)(k5b:ClassId)(b5c b5d:Addr)(h0:Heap)(n0:Nat)(v:Option Value)(h:Heap)(L:List Loc):Prop:=v = some (vI 1)∧Fr n0 L∧Keep h0 h [b3,b5a]∧oF0 Z h b3 (vI 3)∧oF1 Z h b3 (vR b5a)∧oF2 Z h b3 (vI 3)∧Arv Z h b5a k5b (.object oOb) 10 [vR b5c,vR b5d,vR b4,.null,.null,.null,.null,.null,.null,.null] .null
set_option maxRecDepth 65536 in
set_option maxHeartbeats 40000000 in
theorem rm7a46 (l:Launch)(Z:State)(a0:Array Value)(hw:HW a0 Z)(ws:List Jvm.Cond)(b4 b5 b6a:Addr)(k6b:ClassId)(b6c b6d:Addr)(h0:Heap)(n0:Nat)(Z0:n0≤h0.size)(PE9:Exa Z h0 b4 "java/util/ArrayList")(PF10:oF0 Z h0 b4 (vI 2))(PF11:oF1 Z h0 b4 (vR b6a))(PF12:oF2 Z h0 b4 (vI 2))(PV15:Arv Z h0 b6a k6b (.object oOb) 10 [vR b6c,vR b6d,.null,.null,.null,.null,.null,.null,.null,.null] .null)(PE21:Exa Z h0 b5 "[I")(ov_b6a:Ovr Z k6b oOb)(ne_b4_b6a:b4≠b6a)(ne_b6a_b4:b6a≠b4)(n_b4:n0≤b4)(n_b6a:n0≤b6a) :
    own_Met l mn7 jdk_38_method_25_code 2 (some .boolean) ws (oRm 1 0 0 15) #[vR b4,vR b5] Z h0 (Q7a46 Z b4 b5 b6a k6b b6c b6d h0 n0):=by
  refine own_met (own:="java/util/ArrayList") rfl (plainFor_of_name pn_6) ?_
  intro p e s m below meth c s₁ hx hby hml hZ hown hnm X0 e0 Br Bs
  have N0:=Fr.nil n0
  have tt:=own_tt hx hby own_ok7
  refine oV 0 #[oR b4,oR b5] [] ?_
  refine oG X0 tt 2 2 #[oR b4,oR b5] [vR b4,vR b4] rfl ?_
  obtain ⟨T7,X7,e7,st7⟩:=getF X0 hx hZ hown (host:="") (Or.inl (ow56 hw)) (Via.of (ow57 hw)) e0 PF10 (g:=(mkF m 2 #[oR b4,oR b5] [vR b4,vR b4])) rfl rfl (hb hby d7_2)
  refine oH st7 X7 tt 2 7 #[oR b4,oR b5] [vI 3,vR b4] rfl ?_
  obtain ⟨T8,h8,X8,e8,W8,st8⟩:=putF X7 hx hZ hown (host:="") (Or.inl (ow56 hw)) (Via.of (ow57 hw)) e7 PF10 PE9 (Or.inl (ow31 hw)) (ow12 hw) (ty:=.int) (by decide) rfl rfl (g:=(mkF m 7 #[oR b4,oR b5] [vI 3,vR b4])) rfl rfl (hb hby d7_7)
  have Fw8:=Fld.same W8 PF10
  have K8:Keep h0 h8 [b4,b6a]:=(Keep.refl h0 [b4,b6a]).wr W8 oI0
  have N8:=Fr.snoc X8 N0 n_b4
  refine oJ 10 #[oR b4,oR b5] [] st8 ?_
  refine oX2 a0 [b4,b6a,b5] [0,0,0] [fE7_9 0 (vR 1),fE7_48 0 (vI 2)] [] [] [] 3 [oR 0,oR 2] [] [] 20 [oR 0,oR 2] [vI 2,vR 1,vR 2,vR 0] [] tt hZ hown X8 N8 e8 (oA (ow33 hw) (oA (ow58 hw) trivial)) trivial (oA (PF11.other W8 (Or.inr (sn_34_31 hw))) (oA (PF12.other W8 (Or.inr (sn_59_31 hw))) trivial)) trivial (Or.inl rfl) trivial rfl rfl (by decide +kernel) 6 (by decide +kernel) fun T13 h13 _ X13 N13 e13 K13 q13 M13=>?_
  have e13:=e13.trans (q13 rfl)
  refine oV 20 #[oR b4,oR b5] [vI 2,vR b6a,vR b5,vR b4] ?_
  refine own_cP X13 hx hZ hown e13 (ow60 hw) (ow61 hw) (mvT hZ (ow63 hw)) (ow62 hw) (ow13 hw) (ow64 hw) (PE9.wr W8) (y:=mn6) (argsL:=[vR b5,vR b6a,vI 2]) (rest:=[]) (W:=0) hml.symm (hb hby d7_20) (lenOf pd14 rfl) rfl (by decide) (rm8a47 l Z a0 hw [] b4 b5 b6a k6b b6c b6d h8 n0 (oT Z0 (Keep.of_wr W8).1) (PE9.wr W8) Fw8 (PF11.other W8 (Or.inr (sn_34_31 hw))) (PF12.other W8 (Or.inr (sn_59_31 hw))) (PV15.other W8 ne_b6a_b4) (PE21.wr W8) ov_b6a ne_b4_b6a ne_b6a_b4 n_b4 n_b6a) fun _ T14 _ X14 hQ14=>?_
  obtain ⟨rfl,N14q,K14,g14_0,g14_1,g14_2,g14_3⟩:=hQ14
  have N14:=Fr.app N13 N14q
  have eK14:T14.heap = T14.heap:=rfl
  have KK14:Keep h0 T14.heap [b4,b6a]:=Keep.trans K8 K14 (allS oI1 (allS oI0 all0))
  obtain ⟨_,X14,N14⟩:=own_hide X14 N14
  refine oV 23 #[oR b4,oR b5] [] ?_
  refine oG X14 tt 1 24 #[oR b4,oR b5] [vI 1] rfl ?_
  refine own_ret X14 (v:=some (vI 1)) (oN Br) Bs (fun fs hr=>retN X14 hx (t:=.boolean) Br (by simp) (hb hby d7_24) hr) ?_ (by decide) (by decide)
  unfold Q7a46
  rw [eK14]
  exact ⟨rfl,N14,KK14,g14_1,g14_2,g14_3,g14_0⟩
def Q6a45 (Z:State)(b3 b4a:Addr)(k5 k4b:ClassId)(b4c b4d:Addr)(h0:Heap)(n0:Nat)(v:Option Value)(h:Heap)(L:List Loc):Prop:=∃ (b6:Addr),v = none∧Fr n0 L∧Keep h0 h [b4a,b3]∧n0≤b6∧h0.size≤b6∧Arv Z h b4a k4b (.object oOb) 10 [vR b4c,vR b4d,vR b6,.null,.null,.null,.null,.null,.null,.null] .null∧oF0 Z h b3 (vI 3)∧oF1 Z h b3 (vR b4a)∧oF2 Z h b3 (vI 3)∧Arv Z h b6 k5 .int 2 [vI 1,vI 2] (vI 0)∧Exa Z h b6 "[I"
set_option maxRecDepth 65536 in
set_option maxHeartbeats 40000000 in
theorem rm6a45 (l:Launch)(Z:State)(a0:Array Value)(hw:HW a0 Z)(ws:List Jvm.Cond)(b4 b5 b6a:Addr)(k4 k6b:ClassId)(b6c b6d:Addr)(h0:Heap)(n0:Nat)(Z0:n0≤h0.size)(PE9:Exa Z h0 b5 "java/util/ArrayList")(PF10:oF0 Z h0 b5 (vI 2))(PF11:oF1 Z h0 b5 (vR b6a))(PF12:oF2 Z h0 b5 (vI 2))(PV13:Arv Z h0 b4 k4 .int 2 [vI 1,vI 2] (vI 0))(PE14:Exa Z h0 b4 "[I")(PV15:Arv Z h0 b6a k6b (.object oOb) 10 [vR b6c,vR b6d,.null,.null,.null,.null,.null,.null,.null,.null] .null)(ov_b6a:Ovr Z k6b oOb)(ne_b5_b6a:b5≠b6a)(ne_b6a_b5:b6a≠b5)(n_b5:n0≤b5)(n_b6a:n0≤b6a) :
    own_Met l mn9 prog_28_method_10_code 7 none ws (oRm 2 1 2 28) #[vI 3,vI 2,vI 3,vR b4,vI 2,vR b5] Z h0 (Q6a45 Z b5 b6a k4 k6b b6c b6d h0 n0):=by
  refine own_met (own:=oLy) rfl (plainFor_of_name pn_0) ?_
  intro p e s m below meth c s₁ hx hby hml hZ hown hnm X0 e0 Br Bs
  have N0:=Fr.nil n0
  have tt:=own_tt hx hby own_ok6
  refine oV 0 #[oI 3,oI 2,oI 3,oR b4,oI 2,oR b5,oU] [] ?_
  refine oG X0 tt 5 9 #[oI 3,oI 2,oI 3,oR b4,oI 2,oR b5,oU] [vR b4,vR b5] rfl ?_
  obtain ⟨T7,h7,X7,e7,E7,A7,EA7,st7⟩:=cloneH X0 hx hZ hown (ow38 hw) (ow39 hw) (ow43 hw) (ow41 hw) (ow42 hw) (ow44 hw) e0 (hs:=[]) PV13 PE14 (g:=(mkF m 9 #[oI 3,oI 2,oI 3,oR b4,oI 2,oR b5,oU] [vR b4,vR b5])) rfl hml.symm rfl (hb hby d6_9) (by decide) (W:=1) (cap:=2) (oZ rfl) (by decide) (by decide) (by decide) (by decide)
  obtain ⟨b7,g_b7⟩:∃ z,z = h0.size:=⟨_,rfl⟩
  have sg_b7:h0.size≤b7:=Nat.le_of_eq g_b7.symm
  rw [← g_b7] at A7 EA7 st7
  have n_b7:=oT Z0 sg_b7
  have sz_b7:=oT (Keep.refl h0 [b6a,b5]).1 sg_b7
  have K7:Keep h0 h7 [b6a,b5]:=(Keep.refl h0 [b6a,b5]).ext E7
  have V_b7:Arv Z h7 b7 k4 .int 2 [vI 1,vI 2] (vI 0):=A7
  refine oJ 12 #[oI 3,oI 2,oI 3,oR b4,oI 2,oR b5,oU] [vR b7,vR b5] st7 ?_
  obtain ⟨T8,X8,e8,st8⟩:=castY X7 hx hZ hown (ow45 hw) e7 (Ins.self EA7) (g:=(mkF m 12 #[oI 3,oI 2,oI 3,oR b4,oI 2,oR b5,oU] [vR b7,vR b5])) rfl rfl (hb hby d6_12)
  refine oJ 15 #[oI 3,oI 2,oI 3,oR b4,oI 2,oR b5,oU] [vR b7,vR b5] st8 ?_
  refine own_cI X8 hx hZ hown e8 (ow47 hw) (ow48 hw) (mvT hZ (ow49 hw)) (ow50 hw) (ow51 hw) (ow52 hw) (ow53 hw) (ow54 hw) (ow13 hw) (ow55 hw) (PE9.ext E7) (y:=mn8) (z:=mn7) (argsL:=[vR b7]) (rest:=[]) (W:=0) hml.symm (hb hby d6_15) (lenOf pd13 rfl) rfl (by decide) (rm7a46 l Z a0 hw [] b5 b7 b6a k6b b6c b6d h7 n0 (oT Z0 E7.1) (PE9.ext E7) (PF10.ext E7) (PF11.ext E7) (PF12.ext E7) (PV15.ext E7) EA7 ov_b6a ne_b5_b6a ne_b6a_b5 n_b5 n_b6a) fun _ T16 _ X16 hQ16=>?_
  obtain ⟨rfl,N16q,K16,g16_0,g16_1,g16_2,g16_3⟩:=hQ16
  have N16:=Fr.app N0 N16q
  have eK16:T16.heap = T16.heap:=rfl
  have KK16:Keep h0 T16.heap [b6a,b5]:=Keep.trans K7 K16 (allS oI1 (allS oI0 all0))
  obtain ⟨_,X16,N16⟩:=own_hide X16 N16
  refine oV 20 #[oI 3,oI 2,oI 3,oR b4,oI 2,oR b5,oU] [vI 1] ?_
  refine oG X16 tt 2 66 #[oI 3,oI 2,oI 3,oR b4,oI 2,oR b5,oU] [] rfl ?_
  refine own_ret X16 (v:=none) (fun _=>rfl) Bs (fun fs hr=>X16.returnOut hx Br (hb hby d6_66) hr) ?_ (by decide) (by decide)
  unfold Q6a45
  have G17:=(V_b7.keep K16 (ninS (oM PE9.lt sz_b7) (ninS (oM PV15.lt sz_b7) nin0)))
  rw [eK16]
  exact ⟨b7,rfl,N16,KK16,n_b7,sz_b7,g16_3,g16_0,g16_1,g16_2,G17,(EA7.keep K16)⟩
def Q6a44 (Z:State)(b3 b4 b5a:Addr)(k3 k5b:ClassId)(b5c b5d:Addr)(h0:Heap)(n0:Nat)(v:Option Value)(h:Heap)(L:List Loc):Prop:=∃ (b6a:Addr),v = none∧Fr n0 L∧Keep h0 h [b3,b4,b5a]∧n0≤b6a∧h0.size≤b6a∧Arv Z h b3 k3 .int 2 [vI 1,vI 2] (vI 0)∧oF0 Z h b4 (vI 3)∧oF1 Z h b4 (vR b5a)∧oF2 Z h b4 (vI 3)∧Arv Z h b5a k5b (.object oOb) 10 [vR b5c,vR b5d,vR b6a,.null,.null,.null,.null,.null,.null,.null] .null∧Arv Z h b6a k3 .int 2 [vI 1,vI 2] (vI 0)∧Exa Z h b6a "[I"
set_option maxRecDepth 65536 in
set_option maxHeartbeats 40000000 in
theorem rm6a44 (l:Launch)(Z:State)(a0:Array Value)(hw:HW a0 Z)(ws:List Jvm.Cond)(b6 b7 b8a:Addr)(k6 k8b:ClassId)(b8c b8d:Addr)(h0:Heap)(n0:Nat)(Z0:n0≤h0.size)(PE9:Exa Z h0 b7 "java/util/ArrayList")(PF10:oF0 Z h0 b7 (vI 2))(PF11:oF1 Z h0 b7 (vR b8a))(PF12:oF2 Z h0 b7 (vI 2))(PV13:Arv Z h0 b6 k6 .int 2 [vI 1,vI 2] (vI 0))(PE14:Exa Z h0 b6 "[I")(PV15:Arv Z h0 b8a k8b (.object oOb) 10 [vR b8c,vR b8d,.null,.null,.null,.null,.null,.null,.null,.null] .null)(ov_b8a:Ovr Z k8b oOb)(ne_b7_b8a:b7≠b8a)(ne_b8a_b7:b8a≠b7)(ne_b7_b6:b7≠b6)(ne_b8a_b6:b8a≠b6)(ne_b6_b7:b6≠b7)(ne_b6_b8a:b6≠b8a)(n_b6:n0≤b6)(n_b7:n0≤b7)(n_b8a:n0≤b8a) :
    own_Met l mn9 prog_28_method_10_code 7 none ws (oRm 3 1 2 46) #[vI 3,vI 2,vI 2,vR b6,vI 1,vR b7] Z h0 (Q6a44 Z b6 b7 b8a k6 k8b b8c b8d h0 n0):=by
  refine own_met (own:=oLy) rfl (plainFor_of_name pn_0) ?_
  intro p e s m below meth c s₁ hx hby hml hZ hown hnm X0 e0 Br Bs
  have N0:=Fr.nil n0
  have tt:=own_tt hx hby own_ok6
  refine oV 0 #[oI 3,oI 2,oI 2,oR b6,oI 1,oR b7,oU] [] ?_
  refine oG X0 tt 15 43 #[oI 3,oI 2,oI 2,oR b6,oI 1,oR b7,oI 2] [vI 2,vI 1,vR b6] rfl ?_
  obtain ⟨T16,h16,X16,e16,W16,V16,st16⟩:=own_stI X0 hx hZ e0 PV13 (j:=(1:Int32)) ⟨by decide,by decide⟩ 1 rfl (Nat.le_of_ble_eq_true rfl) (g:=(mkF m 43 #[oI 3,oI 2,oI 2,oR b6,oI 1,oR b7,oI 2] [vI 2,vI 1,vR b6])) rfl rfl (hb hby d6_43)
  have K16:Keep h0 h16 [b6,b7,b8a]:=(Keep.refl h0 [b6,b7,b8a]).wr W16 oI0
  have V16s:Arv Z h16 b6 k6 .int 2 [vI 1,vI 2] (vI 0):=V16
  have N16:=Fr.snoc X16 N0 n_b6
  refine oH st16 X16 tt 10 57 #[oI 3,oI 2,oI 2,oR b6,oI 1,oR b7,oI 2] [vR b7,vI 2,vR b6,vI 3,vI 2,vI 3] rfl ?_
  refine own_cS X16 hx hZ hown e16 (ow35 hw) (ow36 hw) (ow3 hw) (ow37 hw) (y:=mn9) (argsL:=[vI 3,vI 2,vI 3,vR b6,vI 2,vR b7]) (rest:=[]) (W:=0) hml.symm (hb hby d6_57) (lenOf pd9 rfl) rfl (by decide) (rm6a45 l Z a0 hw [] b6 b7 b8a k6 k8b b8c b8d h16 n0 (oT Z0 (Keep.of_wr W16).1) (PE9.wr W16) (PF10.other W16 (Or.inl ne_b7_b6)) (PF11.other W16 (Or.inl ne_b7_b6)) (PF12.other W16 (Or.inl ne_b7_b6)) V16s (PE14.wr W16) (PV15.other W16 ne_b8a_b6) ov_b8a ne_b7_b8a ne_b8a_b7 n_b7 n_b8a) fun _ T17 _ X17 hQ17=>?_
  obtain ⟨b17a,rfl,N17q,K17,n_b17a,sg_b17a,g17_0,g17_1,g17_2,g17_3,g17_4,g17_5⟩:=hQ17
  have N17:=Fr.app N16 N17q
  have sz_b17a:=oT K16.1 sg_b17a
  have eK17:T17.heap = T17.heap:=rfl
  have KK17:Keep h0 T17.heap [b6,b7,b8a]:=Keep.trans K16 K17 (allS oI2 (allS oI1 all0))
  obtain ⟨_,X17,N17⟩:=own_hide X17 N17
  refine oV 60 #[oI 3,oI 2,oI 2,oR b6,oI 1,oR b7,oI 2] [] ?_
  refine oG X17 tt 9 66 #[oI 3,oI 2,oI 2,oR b6,oI 1,oR b7,oI 3] [] rfl ?_
  refine own_ret X17 (v:=none) (fun _=>rfl) Bs (fun fs hr=>X17.returnOut hx Br (hb hby d6_66) hr) ?_ (by decide) (by decide)
  unfold Q6a44
  have G18:=(V16s.keep K17 (ninS ne_b6_b8a (ninS ne_b6_b7 nin0)))
  rw [eK17]
  exact ⟨b17a,rfl,N17,KK17,n_b17a,sz_b17a,G18,g17_1,g17_2,g17_3,g17_0,g17_4,g17_5⟩
def Q6a40 (Z:State)(b3 b4:Addr)(k3:ClassId)(h0:Heap)(n0:Nat)(v:Option Value)(h:Heap)(L:List Loc):Prop:=∃ (b5a:Addr)(k5b:ClassId)(b5c b5d b6a:Addr),v = none∧Fr n0 L∧Keep h0 h [b3,b4]∧n0≤b5a∧h0.size≤b5a∧n0≤b5c∧h0.size≤b5c∧n0≤b5d∧h0.size≤b5d∧n0≤b6a∧h0.size≤b6a∧b5c≠b5a∧b5d≠b5a∧b5d≠b5c∧b6a≠b5a∧b6a≠b5c∧b6a≠b5d∧Arv Z h b3 k3 .int 2 [vI 1,vI 2] (vI 0)∧oF0 Z h b4 (vI 3)∧oF1 Z h b4 (vR b5a)∧oF2 Z h b4 (vI 3)∧Arv Z h b5a k5b (.object oOb) 10 [vR b5c,vR b5d,vR b6a,.null,.null,.null,.null,.null,.null,.null] .null∧Ovr Z k5b oOb∧Arv Z h b5c k3 .int 2 [vI 0,vI 1] (vI 0)∧Exa Z h b5c "[I"∧Arv Z h b5d k3 .int 2 [vI 0,vI 2] (vI 0)∧Exa Z h b5d "[I"∧Arv Z h b6a k3 .int 2 [vI 1,vI 2] (vI 0)∧Exa Z h b6a "[I"
set_option maxRecDepth 65536 in
set_option maxHeartbeats 40000000 in
theorem rm6a40 (l:Launch)(Z:State)(a0:Array Value)(hw:HW a0 Z)(ws:List Jvm.Cond)(b15 b16 wd:Addr)(kd k15:ClassId)(h0:Heap)(n0:Nat)(Z0:n0≤h0.size)(PS0:Sta Z h0 "java/util/ArrayList" "DEFAULTCAPACITY_EMPTY_ELEMENTDATA" "[Ljava/lang/Object;" (vR wd))(PV1:Arv Z h0 wd kd (.object oOb) 0 [] .null)(PE9:Exa Z h0 b16 "java/util/ArrayList")(PF10:oF0 Z h0 b16 (vI 0))(PF11:oF1 Z h0 b16 (vR wd))(PF12:oF2 Z h0 b16 (vI 0))(PV13:Arv Z h0 b15 k15 .int 2 [vI 0,vI 0] (vI 0))(PE14:Exa Z h0 b15 "[I")(ne_wd_b16:wd≠b16)(ne_wd_b15:wd≠b15)(ne_b16_b15:b16≠b15)(ne_b15_b16:b15≠b16)(n_b15:n0≤b15)(n_b16:n0≤b16) :
    own_Met l mn9 prog_28_method_10_code 7 none ws (oRm 7 4 16 105) #[vI 3,vI 2,vI 0,vR b15,vI 0,vR b16] Z h0 (Q6a40 Z b15 b16 k15 h0 n0):=by
  refine own_met (own:=oLy) rfl (plainFor_of_name pn_0) ?_
  intro p e s m below meth c s₁ hx hby hml hZ hown hnm X0 e0 Br Bs
  have N0:=Fr.nil n0
  have tt:=own_tt hx hby own_ok6
  refine oV 0 #[oI 3,oI 2,oI 0,oR b15,oI 0,oR b16,oU] [] ?_
  refine oG X0 tt 15 43 #[oI 3,oI 2,oI 0,oR b15,oI 0,oR b16,oI 0] [vI 0,vI 0,vR b15] rfl ?_
  obtain ⟨T17,h17,X17,e17,W17,V17,st17⟩:=own_stI X0 hx hZ e0 PV13 (j:=(0:Int32)) ⟨by decide,by decide⟩ 0 rfl (Nat.le_of_ble_eq_true rfl) (g:=(mkF m 43 #[oI 3,oI 2,oI 0,oR b15,oI 0,oR b16,oI 0] [vI 0,vI 0,vR b15])) rfl rfl (hb hby d6_43)
  have K17:Keep h0 h17 [b15,b16]:=(Keep.refl h0 [b15,b16]).wr W17 oI0
  have V17s:Arv Z h17 b15 k15 .int 2 [vI 0,vI 0] (vI 0):=V17
  have N17:=Fr.snoc X17 N0 n_b15
  refine oH st17 X17 tt 10 57 #[oI 3,oI 2,oI 0,oR b15,oI 0,oR b16,oI 0] [vR b16,vI 1,vR b15,vI 1,vI 2,vI 3] rfl ?_
  refine own_cS X17 hx hZ hown e17 (ow35 hw) (ow36 hw) (ow3 hw) (ow37 hw) (y:=mn9) (argsL:=[vI 3,vI 2,vI 1,vR b15,vI 1,vR b16]) (rest:=[]) (W:=0) hml.symm (hb hby d6_57) (lenOf pd9 rfl) rfl (by decide) (rm6a41 l Z a0 hw [] b15 b16 wd kd k15 h17 n0 (oT Z0 (Keep.of_wr W17).1) (PS0.wr W17) (PV1.other W17 ne_wd_b15) (PE9.wr W17) (PF10.other W17 (Or.inl ne_b16_b15)) (PF11.other W17 (Or.inl ne_b16_b15)) (PF12.other W17 (Or.inl ne_b16_b15)) V17s (PE14.wr W17) ne_wd_b16 ne_wd_b15 ne_b16_b15 ne_b15_b16 n_b15 n_b16) fun _ T18 _ X18 hQ18=>?_
  obtain ⟨b18a,k18b,b18c,b18d,rfl,N18q,K18,n_b18a,sg_b18a,n_b18c,sg_b18c,n_b18d,sg_b18d,ne18_0,ne18_1,ne18_2,g18_0,g18_1,g18_2,g18_3,g18_4,g18_5,g18_6,g18_7,g18_8,g18_9⟩:=hQ18
  have N18:=Fr.app N17 N18q
  have sz_b18a:=oT K17.1 sg_b18a
  have sz_b18c:=oT K17.1 sg_b18c
  have sz_b18d:=oT K17.1 sg_b18d
  have eK18:T18.heap = T18.heap:=rfl
  have KK18:Keep h0 T18.heap [b15,b16]:=Keep.trans K17 K18 (allS oI0 (allS oI1 all0))
  obtain ⟨_,X18,N18⟩:=own_hide X18 N18
  refine oV 60 #[oI 3,oI 2,oI 0,oR b15,oI 0,oR b16,oI 0] [] ?_
  refine oG X18 tt 12 43 #[oI 3,oI 2,oI 0,oR b15,oI 0,oR b16,oI 1] [vI 1,vI 0,vR b15] rfl ?_
  obtain ⟨T19,h19,X19,e19,W19,V19,st19⟩:=own_stI X18 hx hZ eK18 g18_0 (j:=(0:Int32)) ⟨by decide,by decide⟩ 0 rfl (Nat.le_of_ble_eq_true rfl) (g:=(mkF m 43 #[oI 3,oI 2,oI 0,oR b15,oI 0,oR b16,oI 1] [vI 1,vI 0,vR b15])) rfl rfl (hb hby d6_43)
  have K19:Keep h0 h19 [b15,b16]:=KK18.wr W19 oI0
  have V19s:Arv Z h19 b15 k15 .int 2 [vI 1,vI 2] (vI 0):=V19
  have N19:=Fr.snoc X19 N18 n_b15
  refine oH st19 X19 tt 10 57 #[oI 3,oI 2,oI 0,oR b15,oI 0,oR b16,oI 1] [vR b16,vI 1,vR b15,vI 2,vI 2,vI 3] rfl ?_
  refine own_cS X19 hx hZ hown e19 (ow35 hw) (ow36 hw) (ow3 hw) (ow37 hw) (y:=mn9) (argsL:=[vI 3,vI 2,vI 2,vR b15,vI 1,vR b16]) (rest:=[]) (W:=0) hml.symm (hb hby d6_57) (lenOf pd9 rfl) rfl (by decide) (rm6a44 l Z a0 hw [] b15 b16 b18a k15 k18b b18c b18d h19 n0 (oT (oT (oT Z0 (Keep.of_wr W17).1) K18.1) (Keep.of_wr W19).1) (((PE9.wr W17).keep K18).wr W19) (g18_1.other W19 (Or.inl ne_b16_b15)) (g18_2.other W19 (Or.inl ne_b16_b15)) (g18_3.other W19 (Or.inl ne_b16_b15)) V19s (((PE14.wr W17).keep K18).wr W19) (g18_4.other W19 (oM PV13.lt sz_b18a)) g18_5 (oL PE9.lt sz_b18a) (oM PE9.lt sz_b18a) ne_b16_b15 (oM PV13.lt sz_b18a) ne_b15_b16 (oL PV13.lt sz_b18a) n_b15 n_b16 n_b18a) fun _ T20 _ X20 hQ20=>?_
  obtain ⟨b20a,rfl,N20q,K20,n_b20a,sg_b20a,g20_0,g20_1,g20_2,g20_3,g20_4,g20_5,g20_6⟩:=hQ20
  have N20:=Fr.app N19 N20q
  have sz_b20a:=oT K19.1 sg_b20a
  have u21:=(oW g18_4.lt (Keep.of_wr W19).1)
  have u22:=(oW g18_6.lt (Keep.of_wr W19).1)
  have u23:=(oW g18_8.lt (Keep.of_wr W19).1)
  have m24:h17.size≤h19.size:=(oT (oT (Nat.le_refl _) K18.1) (Keep.of_wr W19).1)
  have eK20:T20.heap = T20.heap:=rfl
  have KK20:Keep h0 T20.heap [b15,b16]:=Keep.trans K19 K20 (allS oI0 (allS oI1 (allS (Or.inr sz_b18a) all0)))
  obtain ⟨_,X20,N20⟩:=own_hide X20 N20
  refine oV 60 #[oI 3,oI 2,oI 0,oR b15,oI 0,oR b16,oI 1] [] ?_
  refine oG X20 tt 9 66 #[oI 3,oI 2,oI 0,oR b15,oI 0,oR b16,oI 2] [] rfl ?_
  refine own_ret X20 (v:=none) (fun _=>rfl) Bs (fun fs hr=>X20.returnOut hx Br (hb hby d6_66) hr) ?_ (by decide) (by decide)
  unfold Q6a40
  have G25:=((g18_6.other W19 (oM PV13.lt sz_b18c)).keep K20 (ninS (oM PV13.lt sz_b18c) (ninS (oM PE9.lt sz_b18c) (ninS ne18_0 nin0))))
  have G26:=((g18_8.other W19 (oM PV13.lt sz_b18d)).keep K20 (ninS (oM PV13.lt sz_b18d) (ninS (oM PE9.lt sz_b18d) (ninS ne18_1 nin0))))
  rw [eK20]
  exact ⟨b18a,k18b,b18c,b18d,b20a,rfl,N20,KK20,n_b18a,sz_b18a,n_b18c,sz_b18c,n_b18d,sz_b18d,n_b20a,sz_b20a,ne18_0,ne18_1,ne18_2,(oM u21 sg_b20a),(oM u22 sg_b20a),(oM u23 sg_b20a),g20_0,g20_1,g20_2,g20_3,g20_4,g18_5,G25,((g18_7.wr W19).keep K20),G26,((g18_9.wr W19).keep K20),g20_5,g20_6⟩
def Q12a48 (Z:State)  (h0:Heap)(n0:Nat)(v:Option Value)(h:Heap)(L:List Loc):Prop:=v = some (vI 3)∧Fr n0 L∧h = h0
set_option maxRecDepth 65536 in
set_option maxHeartbeats 40000000 in
theorem rm12a48 (l:Launch)(Z:State)(a0:Array Value)(hw:HW a0 Z)(ws:List Jvm.Cond)(b3:Addr)(h0:Heap)(n0:Nat)(Z0:n0≤h0.size)(PF12:oF2 Z h0 b3 (vI 3)) :
    own_Met l mn10 jdk_38_method_8_code 1 (some .int) ws (oRm 0 0 0 0) #[vR b3] Z h0 (Q12a48 Z  h0 n0):=by
  refine own_met (own:="java/util/ArrayList") rfl (plainFor_of_name pn_6) ?_
  intro p e s m below meth c s₁ hx hby hml hZ hown hnm X0 e0 Br Bs
  have N0:=Fr.nil n0
  have tt:=own_tt hx hby own_ok12
  refine oV 0 #[oR b3] [] ?_
  refine oX2 a0 [b3] [0] [fE12_48 0 (vI 3)] [] [] [] 1 [oR 0] [] [] 4 [oR 0] [vI 3] [] tt hZ hown X0 N0 e0 (oA (ow58 hw) trivial) trivial (oA PF12 trivial) trivial (Or.inl rfl) trivial rfl rfl (by decide +kernel) 2 (by decide +kernel) fun T4 h4 _ X4 N4 e4 K4 q4 M4=>?_
  have e4:=e4.trans (q4 rfl)
  refine oV 4 #[oR b3] [vI 3] ?_
  refine own_ret X4 (v:=some (vI 3)) (oN Br) Bs (fun fs hr=>retI X4 hx Br (hb hby d12_4) hr) ?_ (by decide) (by decide)
  unfold Q12a48
  exact ⟨rfl,N4,e4⟩
def Q15a51 (Z:State)  (h0:Heap)(n0:Nat)(v:Option Value)(h:Heap)(L:List Loc):Prop:=v = some (vI 0)∧Fr n0 L∧h = h0
set_option maxRecDepth 65536 in
set_option maxHeartbeats 40000000 in
theorem rm15a51 (l:Launch)(Z:State)(a0:Array Value)(hw:HW a0 Z)(ws:List Jvm.Cond)  (h0:Heap)(n0:Nat)(Z0:n0≤h0.size) :
    own_Met l mn12 jdk_41_method_11_code 3 (some .int) ws (oRm 0 0 0 0) #[vI 0,vI 3,.null] Z h0 (Q15a51 Z  h0 n0):=by
  refine own_met (own:="jdk/internal/util/Preconditions") rfl (plainFor_of_name pn_8) ?_
  intro p e s m below meth c s₁ hx hby hml hZ hown hnm X0 e0 Br Bs
  have N0:=Fr.nil n0
  have tt:=own_tt hx hby own_ok15
  refine oV 0 #[oI 0,oI 3,.val .null] [] ?_
  refine oG X0 tt 6 17 #[oI 0,oI 3,.val .null] [vI 0] rfl ?_
  refine own_ret X0 (v:=some (vI 0)) (oN Br) Bs (fun fs hr=>retI X0 hx Br (hb hby d15_17) hr) ?_ (by decide) (by decide)
  unfold Q15a51
  exact ⟨rfl,N0,e0⟩
def Q14a50 (Z:State)  (h0:Heap)(n0:Nat)(v:Option Value)(h:Heap)(L:List Loc):Prop:=v = some (vI 0)∧Fr n0 L∧h = h0
set_option maxRecDepth 65536 in
set_option maxHeartbeats 40000000 in
theorem rm14a50 (l:Launch)(Z:State)(a0:Array Value)(hw:HW a0 Z)(ws:List Jvm.Cond)  (h0:Heap)(n0:Nat)(Z0:n0≤h0.size) :
    own_Met l mn13 jdk_31_method_17_code 2 (some .int) ws (oRm 1 0 0 14) #[vI 0,vI 3] Z h0 (Q14a50 Z  h0 n0):=by
  refine own_met (own:="java/util/Objects") rfl (plainFor_of_name pn_7) ?_
  intro p e s m below meth c s₁ hx hby hml hZ hown hnm X0 e0 Br Bs
  have N0:=Fr.nil n0
  have tt:=own_tt hx hby own_ok14
  refine oV 0 #[oI 0,oI 3] [] ?_
  refine oG X0 tt 3 3 #[oI 0,oI 3] [.null,vI 3,vI 0] rfl ?_
  refine own_cS X0 hx hZ hown e0 (ow111 hw) (ow112 hw) (ow113 hw) (ow114 hw) (y:=mn12) (argsL:=[vI 0,vI 3,.null]) (rest:=[]) (W:=0) hml.symm (hb hby d14_3) (lenOf pd11 rfl) rfl (by decide) (rm15a51 l Z a0 hw []  h0 n0 Z0 ) fun _ T3 _ X3 hQ3=>?_
  obtain ⟨rfl,N3q,hh3⟩:=hQ3
  have N3:=Fr.app N0 N3q
  obtain ⟨_,X3,N3⟩:=own_hide X3 N3
  refine oV 6 #[oI 0,oI 3] [vI 0] ?_
  refine own_ret X3 (v:=some (vI 0)) (oN Br) Bs (fun fs hr=>retI X3 hx Br (hb hby d14_6) hr) ?_ (by decide) (by decide)
  unfold Q14a50
  exact ⟨rfl,N3,hh3⟩
def Q16a52 (Z:State)(b3c:Addr)(h0:Heap)(n0:Nat)(v:Option Value)(h:Heap)(L:List Loc):Prop:=v = some (vR b3c)∧Fr n0 L∧h = h0
set_option maxRecDepth 65536 in
set_option maxHeartbeats 40000000 in
theorem rm16a52 (l:Launch)(Z:State)(a0:Array Value)(hw:HW a0 Z)(ws:List Jvm.Cond)(b3 b4a:Addr)(k4b:ClassId)(b4c b4d b4e:Addr)(h0:Heap)(n0:Nat)(Z0:n0≤h0.size)(PF11:oF1 Z h0 b3 (vR b4a))(PV15:Arv Z h0 b4a k4b (.object oOb) 10 [vR b4c,vR b4d,vR b4e,.null,.null,.null,.null,.null,.null,.null] .null) :
    own_Met l mn14 jdk_38_method_18_code 2 (some (.object oOb)) ws (oRm 0 0 0 0) #[vR b3,vI 0] Z h0 (Q16a52 Z b4c h0 n0):=by
  refine own_met (own:="java/util/ArrayList") rfl (plainFor_of_name pn_6) ?_
  intro p e s m below meth c s₁ hx hby hml hZ hown hnm X0 e0 Br Bs
  have N0:=Fr.nil n0
  have tt:=own_tt hx hby own_ok16
  refine oV 0 #[oR b3,oI 0] [] ?_
  refine oX2 a0 [b3,b4a,b4c,b4d,b4e] [0,k4b,0,0,0] [fE16_9 0 (vR 1)] [] [] [1] 5 [oR 0,oI 0] [] [(1,(.object oOb),10,[vR 2,vR 3,vR 4,.null,.null,.null,.null,.null,.null,.null])] 6 [oR 0,oI 0] [vR 2] [] tt hZ hown X0 N0 e0 (oA (ow33 hw) trivial) trivial (oA PF11 trivial) (oA PV15 trivial) (Or.inl rfl) trivial rfl rfl (by decide +kernel) 4 (by decide +kernel) fun T5 h5 _ X5 N5 e5 K5 q5 M5=>?_
  have e5:=e5.trans (q5 rfl)
  refine oV 6 #[oR b3,oI 0] [vR b4c] ?_
  refine own_ret X5 (v:=some (vR b4c)) (oN Br) Bs (fun fs hr=>own_retA X5 hx Br rfl rfl (hb hby d16_6) hr) ?_ (by decide) (by decide)
  unfold Q16a52
  exact ⟨rfl,N5,e5⟩
def Q13a49 (Z:State)(b3c:Addr)(h0:Heap)(n0:Nat)(v:Option Value)(h:Heap)(L:List Loc):Prop:=v = some (vR b3c)∧Fr n0 L∧h = h0
set_option maxRecDepth 65536 in
set_option maxHeartbeats 40000000 in
theorem rm13a49 (l:Launch)(Z:State)(a0:Array Value)(hw:HW a0 Z)(ws:List Jvm.Cond)(b3 b4a:Addr)(k4b:ClassId)(b4c b4d b4e:Addr)(h0:Heap)(n0:Nat)(Z0:n0≤h0.size)(PE9:Exa Z h0 b3 "java/util/ArrayList")(PF11:oF1 Z h0 b3 (vR b4a))(PF12:oF2 Z h0 b3 (vI 3))(PV15:Arv Z h0 b4a k4b (.object oOb) 10 [vR b4c,vR b4d,vR b4e,.null,.null,.null,.null,.null,.null,.null] .null) :
    own_Met l mn15 jdk_38_method_20_code 2 (some (.object oOb)) ws (oRm 2 0 0 27) #[vR b3,vI 0] Z h0 (Q13a49 Z b4c h0 n0):=by
  refine own_met (own:="java/util/ArrayList") rfl (plainFor_of_name pn_6) ?_
  intro p e s m below meth c s₁ hx hby hml hZ hown hnm X0 e0 Br Bs
  have N0:=Fr.nil n0
  have tt:=own_tt hx hby own_ok13
  refine oV 0 #[oR b3,oI 0] [] ?_
  refine oX2 a0 [b3] [0] [fE13_48 0 (vI 3)] [] [] [] 1 [oR 0,oI 0] [] [] 5 [oR 0,oI 0] [vI 3,vI 0] [] tt hZ hown X0 N0 e0 (oA (ow58 hw) trivial) trivial (oA PF12 trivial) trivial (Or.inl rfl) trivial rfl rfl (by decide +kernel) 3 (by decide +kernel) fun T5 h5 _ X5 N5 e5 K5 q5 M5=>?_
  have e5:=e5.trans (q5 rfl)
  refine oV 5 #[oR b3,oI 0] [vI 3,vI 0] ?_
  refine own_cS X5 hx hZ hown e5 (ow107 hw) (ow108 hw) (ow109 hw) (ow110 hw) (y:=mn13) (argsL:=[vI 0,vI 3]) (rest:=[]) (W:=0) hml.symm (hb hby d13_5) (lenOf pd7 rfl) rfl (by decide) (rm14a50 l Z a0 hw []  h0 n0 Z0 ) fun _ T6 _ X6 hQ6=>?_
  obtain ⟨rfl,N6q,hh6⟩:=hQ6
  have N6:=Fr.app N5 N6q
  obtain ⟨_,X6,N6⟩:=own_hide X6 N6
  refine oV 8 #[oR b3,oI 0] [vI 0] ?_
  refine oG X6 tt 3 11 #[oR b3,oI 0] [vI 0,vR b3] rfl ?_
  refine own_cV X6 hx hZ hown hh6 (ow115 hw) (ow116 hw) (notFace_of_selects (args:=#[]) (mvT hZ (ow118 hw))) (ow118 hw) (ow117 hw) (ow13 hw) (ow119 hw) PE9 (y:=mn14) (z:=mn14) (argsL:=[vI 0]) (rest:=[]) (W:=0) hml.symm (hb hby d13_11) (lenOf pd5 rfl) rfl (by decide) (rm16a52 l Z a0 hw [] b3 b4a k4b b4c b4d b4e h0 n0 Z0 PF11 PV15) fun _ T7 _ X7 hQ7=>?_
  obtain ⟨rfl,N7q,hh7⟩:=hQ7
  have N7:=Fr.app N6 N7q
  obtain ⟨_,X7,N7⟩:=own_hide X7 N7
  refine oV 14 #[oR b3,oI 0] [vR b4c] ?_
  refine own_ret X7 (v:=some (vR b4c)) (oN Br) Bs (fun fs hr=>own_retA X7 hx Br rfl rfl (hb hby d13_14) hr) ?_ (by decide) (by decide)
  unfold Q13a49
  exact ⟨rfl,N7,hh7⟩
def Q15a55 (Z:State)  (h0:Heap)(n0:Nat)(v:Option Value)(h:Heap)(L:List Loc):Prop:=v = some (vI 1)∧Fr n0 L∧h = h0
set_option maxRecDepth 65536 in
set_option maxHeartbeats 40000000 in
theorem rm15a55 (l:Launch)(Z:State)(a0:Array Value)(hw:HW a0 Z)(ws:List Jvm.Cond)  (h0:Heap)(n0:Nat)(Z0:n0≤h0.size) :
    own_Met l mn12 jdk_41_method_11_code 3 (some .int) ws (oRm 0 0 0 0) #[vI 1,vI 3,.null] Z h0 (Q15a55 Z  h0 n0):=by
  refine own_met (own:="jdk/internal/util/Preconditions") rfl (plainFor_of_name pn_8) ?_
  intro p e s m below meth c s₁ hx hby hml hZ hown hnm X0 e0 Br Bs
  have N0:=Fr.nil n0
  have tt:=own_tt hx hby own_ok15
  refine oV 0 #[oI 1,oI 3,.val .null] [] ?_
  refine oG X0 tt 6 17 #[oI 1,oI 3,.val .null] [vI 1] rfl ?_
  refine own_ret X0 (v:=some (vI 1)) (oN Br) Bs (fun fs hr=>retI X0 hx Br (hb hby d15_17) hr) ?_ (by decide) (by decide)
  unfold Q15a55
  exact ⟨rfl,N0,e0⟩
def Q14a54 (Z:State)  (h0:Heap)(n0:Nat)(v:Option Value)(h:Heap)(L:List Loc):Prop:=v = some (vI 1)∧Fr n0 L∧h = h0
set_option maxRecDepth 65536 in
set_option maxHeartbeats 40000000 in
theorem rm14a54 (l:Launch)(Z:State)(a0:Array Value)(hw:HW a0 Z)(ws:List Jvm.Cond)  (h0:Heap)(n0:Nat)(Z0:n0≤h0.size) :
    own_Met l mn13 jdk_31_method_17_code 2 (some .int) ws (oRm 1 0 0 14) #[vI 1,vI 3] Z h0 (Q14a54 Z  h0 n0):=by
  refine own_met (own:="java/util/Objects") rfl (plainFor_of_name pn_7) ?_
  intro p e s m below meth c s₁ hx hby hml hZ hown hnm X0 e0 Br Bs
  have N0:=Fr.nil n0
  have tt:=own_tt hx hby own_ok14
  refine oV 0 #[oI 1,oI 3] [] ?_
  refine oG X0 tt 3 3 #[oI 1,oI 3] [.null,vI 3,vI 1] rfl ?_
  refine own_cS X0 hx hZ hown e0 (ow111 hw) (ow112 hw) (ow113 hw) (ow114 hw) (y:=mn12) (argsL:=[vI 1,vI 3,.null]) (rest:=[]) (W:=0) hml.symm (hb hby d14_3) (lenOf pd11 rfl) rfl (by decide) (rm15a55 l Z a0 hw []  h0 n0 Z0 ) fun _ T3 _ X3 hQ3=>?_
  obtain ⟨rfl,N3q,hh3⟩:=hQ3
  have N3:=Fr.app N0 N3q
  obtain ⟨_,X3,N3⟩:=own_hide X3 N3
  refine oV 6 #[oI 1,oI 3] [vI 1] ?_
  refine own_ret X3 (v:=some (vI 1)) (oN Br) Bs (fun fs hr=>retI X3 hx Br (hb hby d14_6) hr) ?_ (by decide) (by decide)
  unfold Q14a54
  exact ⟨rfl,N3,hh3⟩
def Q16a56 (Z:State)(b3d:Addr)(h0:Heap)(n0:Nat)(v:Option Value)(h:Heap)(L:List Loc):Prop:=v = some (vR b3d)∧Fr n0 L∧h = h0
set_option maxRecDepth 65536 in
set_option maxHeartbeats 40000000 in
theorem rm16a56 (l:Launch)(Z:State)(a0:Array Value)(hw:HW a0 Z)(ws:List Jvm.Cond)(b3 b4a:Addr)(k4b:ClassId)(b4c b4d b4e:Addr)(h0:Heap)(n0:Nat)(Z0:n0≤h0.size)(PF11:oF1 Z h0 b3 (vR b4a))(PV15:Arv Z h0 b4a k4b (.object oOb) 10 [vR b4c,vR b4d,vR b4e,.null,.null,.null,.null,.null,.null,.null] .null) :
    own_Met l mn14 jdk_38_method_18_code 2 (some (.object oOb)) ws (oRm 0 0 0 0) #[vR b3,vI 1] Z h0 (Q16a56 Z b4d h0 n0):=by
  refine own_met (own:="java/util/ArrayList") rfl (plainFor_of_name pn_6) ?_
  intro p e s m below meth c s₁ hx hby hml hZ hown hnm X0 e0 Br Bs
  have N0:=Fr.nil n0
  have tt:=own_tt hx hby own_ok16
  refine oV 0 #[oR b3,oI 1] [] ?_
  refine oX2 a0 [b3,b4a,b4c,b4d,b4e] [0,k4b,0,0,0] [fE16_9 0 (vR 1)] [] [] [1] 5 [oR 0,oI 1] [] [(1,(.object oOb),10,[vR 2,vR 3,vR 4,.null,.null,.null,.null,.null,.null,.null])] 6 [oR 0,oI 1] [vR 3] [] tt hZ hown X0 N0 e0 (oA (ow33 hw) trivial) trivial (oA PF11 trivial) (oA PV15 trivial) (Or.inl rfl) trivial rfl rfl (by decide +kernel) 4 (by decide +kernel) fun T5 h5 _ X5 N5 e5 K5 q5 M5=>?_
  have e5:=e5.trans (q5 rfl)
  refine oV 6 #[oR b3,oI 1] [vR b4d] ?_
  refine own_ret X5 (v:=some (vR b4d)) (oN Br) Bs (fun fs hr=>own_retA X5 hx Br rfl rfl (hb hby d16_6) hr) ?_ (by decide) (by decide)
  unfold Q16a56
  exact ⟨rfl,N5,e5⟩
def Q13a53 (Z:State)(b3d:Addr)(h0:Heap)(n0:Nat)(v:Option Value)(h:Heap)(L:List Loc):Prop:=v = some (vR b3d)∧Fr n0 L∧h = h0
set_option maxRecDepth 65536 in
set_option maxHeartbeats 40000000 in
theorem rm13a53 (l:Launch)(Z:State)(a0:Array Value)(hw:HW a0 Z)(ws:List Jvm.Cond)(b3 b4a:Addr)(k4b:ClassId)(b4c b4d b4e:Addr)(h0:Heap)(n0:Nat)(Z0:n0≤h0.size)(PE9:Exa Z h0 b3 "java/util/ArrayList")(PF11:oF1 Z h0 b3 (vR b4a))(PF12:oF2 Z h0 b3 (vI 3))(PV15:Arv Z h0 b4a k4b (.object oOb) 10 [vR b4c,vR b4d,vR b4e,.null,.null,.null,.null,.null,.null,.null] .null) :
    own_Met l mn15 jdk_38_method_20_code 2 (some (.object oOb)) ws (oRm 2 0 0 27) #[vR b3,vI 1] Z h0 (Q13a53 Z b4d h0 n0):=by
  refine own_met (own:="java/util/ArrayList") rfl (plainFor_of_name pn_6) ?_
  intro p e s m below meth c s₁ hx hby hml hZ hown hnm X0 e0 Br Bs
  have N0:=Fr.nil n0
  have tt:=own_tt hx hby own_ok13
  refine oV 0 #[oR b3,oI 1] [] ?_
  refine oX2 a0 [b3] [0] [fE13_48 0 (vI 3)] [] [] [] 1 [oR 0,oI 1] [] [] 5 [oR 0,oI 1] [vI 3,vI 1] [] tt hZ hown X0 N0 e0 (oA (ow58 hw) trivial) trivial (oA PF12 trivial) trivial (Or.inl rfl) trivial rfl rfl (by decide +kernel) 3 (by decide +kernel) fun T5 h5 _ X5 N5 e5 K5 q5 M5=>?_
  have e5:=e5.trans (q5 rfl)
  refine oV 5 #[oR b3,oI 1] [vI 3,vI 1] ?_
  refine own_cS X5 hx hZ hown e5 (ow107 hw) (ow108 hw) (ow109 hw) (ow110 hw) (y:=mn13) (argsL:=[vI 1,vI 3]) (rest:=[]) (W:=0) hml.symm (hb hby d13_5) (lenOf pd7 rfl) rfl (by decide) (rm14a54 l Z a0 hw []  h0 n0 Z0 ) fun _ T6 _ X6 hQ6=>?_
  obtain ⟨rfl,N6q,hh6⟩:=hQ6
  have N6:=Fr.app N5 N6q
  obtain ⟨_,X6,N6⟩:=own_hide X6 N6
  refine oV 8 #[oR b3,oI 1] [vI 1] ?_
  refine oG X6 tt 3 11 #[oR b3,oI 1] [vI 1,vR b3] rfl ?_
  refine own_cV X6 hx hZ hown hh6 (ow115 hw) (ow116 hw) (notFace_of_selects (args:=#[]) (mvT hZ (ow118 hw))) (ow118 hw) (ow117 hw) (ow13 hw) (ow119 hw) PE9 (y:=mn14) (z:=mn14) (argsL:=[vI 1]) (rest:=[]) (W:=0) hml.symm (hb hby d13_11) (lenOf pd5 rfl) rfl (by decide) (rm16a56 l Z a0 hw [] b3 b4a k4b b4c b4d b4e h0 n0 Z0 PF11 PV15) fun _ T7 _ X7 hQ7=>?_
  obtain ⟨rfl,N7q,hh7⟩:=hQ7
  have N7:=Fr.app N6 N7q
  obtain ⟨_,X7,N7⟩:=own_hide X7 N7
  refine oV 14 #[oR b3,oI 1] [vR b4d] ?_
  refine own_ret X7 (v:=some (vR b4d)) (oN Br) Bs (fun fs hr=>own_retA X7 hx Br rfl rfl (hb hby d13_14) hr) ?_ (by decide) (by decide)
  unfold Q13a53
  exact ⟨rfl,N7,hh7⟩
def Q15a59 (Z:State)  (h0:Heap)(n0:Nat)(v:Option Value)(h:Heap)(L:List Loc):Prop:=v = some (vI 2)∧Fr n0 L∧h = h0
set_option maxRecDepth 65536 in
set_option maxHeartbeats 40000000 in
theorem rm15a59 (l:Launch)(Z:State)(a0:Array Value)(hw:HW a0 Z)(ws:List Jvm.Cond)  (h0:Heap)(n0:Nat)(Z0:n0≤h0.size) :
    own_Met l mn12 jdk_41_method_11_code 3 (some .int) ws (oRm 0 0 0 0) #[vI 2,vI 3,.null] Z h0 (Q15a59 Z  h0 n0):=by
  refine own_met (own:="jdk/internal/util/Preconditions") rfl (plainFor_of_name pn_8) ?_
  intro p e s m below meth c s₁ hx hby hml hZ hown hnm X0 e0 Br Bs
  have N0:=Fr.nil n0
  have tt:=own_tt hx hby own_ok15
  refine oV 0 #[oI 2,oI 3,.val .null] [] ?_
  refine oG X0 tt 6 17 #[oI 2,oI 3,.val .null] [vI 2] rfl ?_
  refine own_ret X0 (v:=some (vI 2)) (oN Br) Bs (fun fs hr=>retI X0 hx Br (hb hby d15_17) hr) ?_ (by decide) (by decide)
  unfold Q15a59
  exact ⟨rfl,N0,e0⟩
def Q14a58 (Z:State)  (h0:Heap)(n0:Nat)(v:Option Value)(h:Heap)(L:List Loc):Prop:=v = some (vI 2)∧Fr n0 L∧h = h0
set_option maxRecDepth 65536 in
set_option maxHeartbeats 40000000 in
theorem rm14a58 (l:Launch)(Z:State)(a0:Array Value)(hw:HW a0 Z)(ws:List Jvm.Cond)  (h0:Heap)(n0:Nat)(Z0:n0≤h0.size) :
    own_Met l mn13 jdk_31_method_17_code 2 (some .int) ws (oRm 1 0 0 14) #[vI 2,vI 3] Z h0 (Q14a58 Z  h0 n0):=by
  refine own_met (own:="java/util/Objects") rfl (plainFor_of_name pn_7) ?_
  intro p e s m below meth c s₁ hx hby hml hZ hown hnm X0 e0 Br Bs
  have N0:=Fr.nil n0
  have tt:=own_tt hx hby own_ok14
  refine oV 0 #[oI 2,oI 3] [] ?_
  refine oG X0 tt 3 3 #[oI 2,oI 3] [.null,vI 3,vI 2] rfl ?_
  refine own_cS X0 hx hZ hown e0 (ow111 hw) (ow112 hw) (ow113 hw) (ow114 hw) (y:=mn12) (argsL:=[vI 2,vI 3,.null]) (rest:=[]) (W:=0) hml.symm (hb hby d14_3) (lenOf pd11 rfl) rfl (by decide) (rm15a59 l Z a0 hw []  h0 n0 Z0 ) fun _ T3 _ X3 hQ3=>?_
  obtain ⟨rfl,N3q,hh3⟩:=hQ3
  have N3:=Fr.app N0 N3q
  obtain ⟨_,X3,N3⟩:=own_hide X3 N3
  refine oV 6 #[oI 2,oI 3] [vI 2] ?_
  refine own_ret X3 (v:=some (vI 2)) (oN Br) Bs (fun fs hr=>retI X3 hx Br (hb hby d14_6) hr) ?_ (by decide) (by decide)
  unfold Q14a58
  exact ⟨rfl,N3,hh3⟩
def Q16a60 (Z:State)(b3e:Addr)(h0:Heap)(n0:Nat)(v:Option Value)(h:Heap)(L:List Loc):Prop:=v = some (vR b3e)∧Fr n0 L∧h = h0
set_option maxRecDepth 65536 in
set_option maxHeartbeats 40000000 in
theorem rm16a60 (l:Launch)(Z:State)(a0:Array Value)(hw:HW a0 Z)(ws:List Jvm.Cond)(b3 b4a:Addr)(k4b:ClassId)(b4c b4d b4e:Addr)(h0:Heap)(n0:Nat)(Z0:n0≤h0.size)(PF11:oF1 Z h0 b3 (vR b4a))(PV15:Arv Z h0 b4a k4b (.object oOb) 10 [vR b4c,vR b4d,vR b4e,.null,.null,.null,.null,.null,.null,.null] .null) :
    own_Met l mn14 jdk_38_method_18_code 2 (some (.object oOb)) ws (oRm 0 0 0 0) #[vR b3,vI 2] Z h0 (Q16a60 Z b4e h0 n0):=by
  refine own_met (own:="java/util/ArrayList") rfl (plainFor_of_name pn_6) ?_
  intro p e s m below meth c s₁ hx hby hml hZ hown hnm X0 e0 Br Bs
  have N0:=Fr.nil n0
  have tt:=own_tt hx hby own_ok16
  refine oV 0 #[oR b3,oI 2] [] ?_
  refine oX2 a0 [b3,b4a,b4c,b4d,b4e] [0,k4b,0,0,0] [fE16_9 0 (vR 1)] [] [] [1] 5 [oR 0,oI 2] [] [(1,(.object oOb),10,[vR 2,vR 3,vR 4,.null,.null,.null,.null,.null,.null,.null])] 6 [oR 0,oI 2] [vR 4] [] tt hZ hown X0 N0 e0 (oA (ow33 hw) trivial) trivial (oA PF11 trivial) (oA PV15 trivial) (Or.inl rfl) trivial rfl rfl (by decide +kernel) 4 (by decide +kernel) fun T5 h5 _ X5 N5 e5 K5 q5 M5=>?_
  have e5:=e5.trans (q5 rfl)
  refine oV 6 #[oR b3,oI 2] [vR b4e] ?_
  refine own_ret X5 (v:=some (vR b4e)) (oN Br) Bs (fun fs hr=>own_retA X5 hx Br rfl rfl (hb hby d16_6) hr) ?_ (by decide) (by decide)
  unfold Q16a60
  exact ⟨rfl,N5,e5⟩
def Q13a57 (Z:State)(b3e:Addr)(h0:Heap)(n0:Nat)(v:Option Value)(h:Heap)(L:List Loc):Prop:=v = some (vR b3e)∧Fr n0 L∧h = h0
set_option maxRecDepth 65536 in
set_option maxHeartbeats 40000000 in
theorem rm13a57 (l:Launch)(Z:State)(a0:Array Value)(hw:HW a0 Z)(ws:List Jvm.Cond)(b3 b4a:Addr)(k4b:ClassId)(b4c b4d b4e:Addr)(h0:Heap)(n0:Nat)(Z0:n0≤h0.size)(PE9:Exa Z h0 b3 "java/util/ArrayList")(PF11:oF1 Z h0 b3 (vR b4a))(PF12:oF2 Z h0 b3 (vI 3))(PV15:Arv Z h0 b4a k4b (.object oOb) 10 [vR b4c,vR b4d,vR b4e,.null,.null,.null,.null,.null,.null,.null] .null) :
    own_Met l mn15 jdk_38_method_20_code 2 (some (.object oOb)) ws (oRm 2 0 0 27) #[vR b3,vI 2] Z h0 (Q13a57 Z b4e h0 n0):=by
  refine own_met (own:="java/util/ArrayList") rfl (plainFor_of_name pn_6) ?_
  intro p e s m below meth c s₁ hx hby hml hZ hown hnm X0 e0 Br Bs
  have N0:=Fr.nil n0
  have tt:=own_tt hx hby own_ok13
  refine oV 0 #[oR b3,oI 2] [] ?_
  refine oX2 a0 [b3] [0] [fE13_48 0 (vI 3)] [] [] [] 1 [oR 0,oI 2] [] [] 5 [oR 0,oI 2] [vI 3,vI 2] [] tt hZ hown X0 N0 e0 (oA (ow58 hw) trivial) trivial (oA PF12 trivial) trivial (Or.inl rfl) trivial rfl rfl (by decide +kernel) 3 (by decide +kernel) fun T5 h5 _ X5 N5 e5 K5 q5 M5=>?_
  have e5:=e5.trans (q5 rfl)
  refine oV 5 #[oR b3,oI 2] [vI 3,vI 2] ?_
  refine own_cS X5 hx hZ hown e5 (ow107 hw) (ow108 hw) (ow109 hw) (ow110 hw) (y:=mn13) (argsL:=[vI 2,vI 3]) (rest:=[]) (W:=0) hml.symm (hb hby d13_5) (lenOf pd7 rfl) rfl (by decide) (rm14a58 l Z a0 hw []  h0 n0 Z0 ) fun _ T6 _ X6 hQ6=>?_
  obtain ⟨rfl,N6q,hh6⟩:=hQ6
  have N6:=Fr.app N5 N6q
  obtain ⟨_,X6,N6⟩:=own_hide X6 N6
  refine oV 8 #[oR b3,oI 2] [vI 2] ?_
  refine oG X6 tt 3 11 #[oR b3,oI 2] [vI 2,vR b3] rfl ?_
  refine own_cV X6 hx hZ hown hh6 (ow115 hw) (ow116 hw) (notFace_of_selects (args:=#[]) (mvT hZ (ow118 hw))) (ow118 hw) (ow117 hw) (ow13 hw) (ow119 hw) PE9 (y:=mn14) (z:=mn14) (argsL:=[vI 2]) (rest:=[]) (W:=0) hml.symm (hb hby d13_11) (lenOf pd5 rfl) rfl (by decide) (rm16a60 l Z a0 hw [] b3 b4a k4b b4c b4d b4e h0 n0 Z0 PF11 PV15) fun _ T7 _ X7 hQ7=>?_
  obtain ⟨rfl,N7q,hh7⟩:=hQ7
  have N7:=Fr.app N6 N7q
  obtain ⟨_,X7,N7⟩:=own_hide X7 N7
  refine oV 14 #[oR b3,oI 2] [vR b4e] ?_
  refine own_ret X7 (v:=some (vR b4e)) (oN Br) Bs (fun fs hr=>own_retA X7 hx Br rfl rfl (hb hby d13_14) hr) ?_ (by decide) (by decide)
  unfold Q13a57
  exact ⟨rfl,N7,hh7⟩
def Q19a61 (Z:State)  (h0:Heap)(n0:Nat)(v:Option Value)(h:Heap)(L:List Loc):Prop:=v = some (.long (-2097152:Int64))∧Fr n0 L∧h = h0
set_option maxRecDepth 65536 in
set_option maxHeartbeats 40000000 in
theorem rm19a61 (l:Launch)(Z:State)(a0:Array Value)(hw:HW a0 Z)(ws:List Jvm.Cond)(b6 b7 b8 b9:Addr)(k7:ClassId)(x7a x7b x7c:Addr)(kc7 k8:ClassId)(x8a x8b x8c:Addr)(kc8 k9:ClassId)(h0:Heap)(n0:Nat)(Z0:n0≤h0.size)(PF3:oF3 Z h0 b6 (vR b7))(PF4:oF4 Z h0 b6 (vR b8))(PF5:oF5 Z h0 b6 (vR b9))(PV22:Arv Z h0 b7 k7 (.array .int) 3 [vR x7a,vR x7b,vR x7c] .null)(PV24:Arv Z h0 x7a kc7 .int 3 [vI 42,vI 21,vI 0] (vI 0))(PV30:Arv Z h0 b8 k8 (.array .int) 3 [vR x8a,vR x8b,vR x8c] .null)(PV32:Arv Z h0 x8a kc8 .int 3 [vI 22,vI 21,vI 21] (vI 0))(PV38:Arv Z h0 b9 k9 .int 3 [vI 43,vI 43,vI 42] (vI 0)) :
    own_Met l mn20 prog_28_method_8_code 6 (some .long) ws (oRm 0 0 0 0) #[vR b6,vI 0] Z h0 (Q19a61 Z  h0 n0):=by
  refine own_met (own:=oLy) rfl (plainFor_of_name pn_0) ?_
  intro p e s m below meth c s₁ hx hby hml hZ hown hnm X0 e0 Br Bs
  have N0:=Fr.nil n0
  have tt:=own_tt hx hby own_ok19
  refine oV 0 #[oR b6,oI 0,oU,oU,oU,oU] [] ?_
  refine oX2 a0 [b6,b7,b8,b9,x7a,x7b,x7c,x8a,x8b,x8c] [0,k7,k8,k9,kc7,0,0,kc8,0,0] [fE19_32 0 (vR 3),fE19_29 0 (vR 2),fE19_26 0 (vR 1)] [(86,(-1))] [] [3,2,7,1,4] 10 [oR 0,oI 0,oU,oU,oU,oU] [] [(3,.int,3,[vI 43,vI 43,vI 42]),(2,(.array .int),3,[vR 7,vR 8,vR 9]),(7,.int,3,[vI 22,vI 21,vI 21]),(1,(.array .int),3,[vR 4,vR 5,vR 6]),(4,.int,3,[vI 42,vI 21,vI 0])] 68 [oR 0,oI 0,oQ (-2097152),oS,oI 0,oI 2] [.long (-2097152)] [] tt hZ hown X0 N0 e0 (oA (ow96 hw) (oA (ow94 hw) (oA (ow92 hw) trivial))) (oA (ow131 hw) trivial) (oA PF5 (oA PF4 (oA PF3 trivial))) (oA PV38 (oA PV30 (oA PV32 (oA PV22 (oA PV24 trivial))))) (Or.inl rfl) trivial rfl rfl (by decide +kernel) 78 (by decide +kernel) fun T10 h10 _ X10 N10 e10 K10 q10 M10=>?_
  have e10:=e10.trans (q10 rfl)
  refine oV 68 #[oR b6,oI 0,oQ (-2097152:Int64),oS,oI 0,oI 2] [(.long (-2097152:Int64))] ?_
  refine own_ret X10 (v:=some (.long (-2097152:Int64))) (oN Br) Bs (fun fs hr=>own_retL X10 hx Br (hb hby d19_68) hr) ?_ (by decide) (by decide)
  unfold Q19a61
  exact ⟨rfl,N10,e10⟩
def Q17a62 (Z:State)(j3:Int64)(h0:Heap)(n0:Nat)(v:Option Value)(h:Heap)(L:List Loc):Prop:=v = some (.long (kf (kf (kf 0 j3 42 22) j3 0 21) j3 21 21))∧Fr n0 L∧h = h0
set_option maxRecDepth 65536 in
set_option maxHeartbeats 40000000 in
theorem rm17a62 (l:Launch)(Z:State)(a0:Array Value)(hw:HW a0 Z)(ws:List Jvm.Cond)(b5:Addr)(j6:Int64)(b7 b8:Addr)(k7:ClassId)(x7a x7b x7c:Addr)(kc7 k8:ClassId)(x8a x8b x8c:Addr)(kc8:ClassId)(h0:Heap)(n0:Nat)(Z0:n0≤h0.size)(PF3:oF3 Z h0 b5 (vR b7))(PF4:oF4 Z h0 b5 (vR b8))(PV22:Arv Z h0 b7 k7 (.array .int) 3 [vR x7a,vR x7b,vR x7c] .null)(PV26:Arv Z h0 x7b kc7 .int 3 [vI 42,vI 0,vI 21] (vI 0))(PV30:Arv Z h0 b8 k8 (.array .int) 3 [vR x8a,vR x8b,vR x8c] .null)(PV34:Arv Z h0 x8b kc8 .int 3 [vI 22,vI 21,vI 21] (vI 0)) :
    own_Met l mn18 prog_28_method_6_code 9 (some .long) ws (oRm 0 0 0 0) #[vR b5,vI 1,(.long j6)] Z h0 (Q17a62 Z j6 h0 n0):=by
  refine own_met (own:=oLy) rfl (plainFor_of_name pn_0) ?_
  intro p e s m below meth c s₁ hx hby hml hZ hown hnm X0 e0 Br Bs
  have N0:=Fr.nil n0
  have tt:=own_tt hx hby own_ok17
  refine oV 0 #[oR b5,oI 1,oQ j6,oS,oU,oU,oU,oU,oU] [] ?_
  refine oX3 a0 [b5,b7,b8,x7a,x7b,x7c,x8a,x8b,x8c] [0,k7,k8,0,kc7,0,0,kc8,0] [fE17_29 0 (vR 2),fE17_26 0 (vR 1)] [(86,(-1))] [] [2,7,1,4] 9 [oR 0,oI 1,oQ j6,oS,oU,oU,oU,oU,oU] [] [(2,(.array .int),3,[vR 6,vR 7,vR 8]),(7,.int,3,[vI 22,vI 21,vI 21]),(1,(.array .int),3,[vR 3,vR 4,vR 5]),(4,.int,3,[vI 42,vI 0,vI 21])] 73 [oR 0,oI 1,oQ j6,oS,oQ (kf (kf (kf 0 j6 42 22) j6 0 21) j6 21 21),oS,oI 3,oQ (kg j6 21 21),oS] [.long (kf (kf (kf 0 j6 42 22) j6 0 21) j6 21 21)] [] tt hZ hown X0 N0 e0 (oA (ow94 hw) (oA (ow92 hw) trivial)) (oA (ow131 hw) trivial) (oA PF4 (oA PF3 trivial)) (oA PV30 (oA PV34 (oA PV22 (oA PV26 trivial)))) (Or.inl rfl) trivial rfl rfl (by decide +kernel) _ (oC 11 18 [oR 0,oI 1,oQ j6,oS,oQ 0,oS,oI 0,oU,oU] [] rfl (oC 10 34 [oR 0,oI 1,oQ j6,oS,oQ 0,oS,oI 0,oU,oU] [vI 64,.long (-1),.long (kh j6 42)] rfl (oC 10 48 [oR 0,oI 1,oQ j6,oS,oQ 0,oS,oI 0,oQ (kg j6 42 22),oS] [] rfl (oC 11 65 [oR 0,oI 1,oQ j6,oS,oQ (kf 0 j6 42 22),oS,oI 0,oQ (kg j6 42 22),oS] [] rfl (oC 9 18 [oR 0,oI 1,oQ j6,oS,oQ (kf 0 j6 42 22),oS,oI 1,oQ (kg j6 42 22),oS] [] rfl (oC 10 34 [oR 0,oI 1,oQ j6,oS,oQ (kf 0 j6 42 22),oS,oI 1,oQ (kg j6 42 22),oS] [vI 64,.long (-1),.long (kh j6 0)] rfl (oC 10 48 [oR 0,oI 1,oQ j6,oS,oQ (kf 0 j6 42 22),oS,oI 1,oQ (kg j6 0 21),oS] [] rfl (oC 11 65 [oR 0,oI 1,oQ j6,oS,oQ (kf (kf 0 j6 42 22) j6 0 21),oS,oI 1,oQ (kg j6 0 21),oS] [] rfl (oC 9 18 [oR 0,oI 1,oQ j6,oS,oQ (kf (kf 0 j6 42 22) j6 0 21),oS,oI 2,oQ (kg j6 0 21),oS] [] rfl (oC 10 34 [oR 0,oI 1,oQ j6,oS,oQ (kf (kf 0 j6 42 22) j6 0 21),oS,oI 2,oQ (kg j6 0 21),oS] [vI 64,.long (-1),.long (kh j6 21)] rfl (oC 10 48 [oR 0,oI 1,oQ j6,oS,oQ (kf (kf 0 j6 42 22) j6 0 21),oS,oI 2,oQ (kg j6 21 21),oS] [] rfl (oC 11 65 [oR 0,oI 1,oQ j6,oS,oQ (kf (kf (kf 0 j6 42 22) j6 0 21) j6 21 21),oS,oI 2,oQ (kg j6 21 21),oS] [] (n2:=10) rfl rfl)))))))))))) fun T9 h9 _ X9 N9 e9 K9 q9 M9=>?_
  have e9:=e9.trans (q9 rfl)
  refine oV 73 #[oR b5,oI 1,oQ j6,oS,oQ (kf (kf (kf 0 j6 42 22) j6 0 21) j6 21 21),oS,oI 3,oQ (kg j6 21 21),oS] [(.long (kf (kf (kf 0 j6 42 22) j6 0 21) j6 21 21))] ?_
  refine own_ret X9 (v:=some (.long (kf (kf (kf 0 j6 42 22) j6 0 21) j6 21 21))) (oN Br) Bs (fun fs hr=>own_retL X9 hx Br (hb hby d17_73) hr) ?_ (by decide) (by decide)
  unfold Q17a62
  exact ⟨rfl,N9,e9⟩
def Q17a63 (Z:State)(j3:Int64)(h0:Heap)(n0:Nat)(v:Option Value)(h:Heap)(L:List Loc):Prop:=v = some (.long (kf (kf (kf 0 j3 21 21) j3 0 21) j3 42 22))∧Fr n0 L∧h = h0
set_option maxRecDepth 65536 in
set_option maxHeartbeats 40000000 in
theorem rm17a63 (l:Launch)(Z:State)(a0:Array Value)(hw:HW a0 Z)(ws:List Jvm.Cond)(b5:Addr)(j6:Int64)(b7 b8:Addr)(k7:ClassId)(x7a x7b x7c:Addr)(kc7 k8:ClassId)(x8a x8b x8c:Addr)(kc8:ClassId)(h0:Heap)(n0:Nat)(Z0:n0≤h0.size)(PF3:oF3 Z h0 b5 (vR b7))(PF4:oF4 Z h0 b5 (vR b8))(PV22:Arv Z h0 b7 k7 (.array .int) 3 [vR x7a,vR x7b,vR x7c] .null)(PV28:Arv Z h0 x7c kc7 .int 3 [vI 21,vI 0,vI 42] (vI 0))(PV30:Arv Z h0 b8 k8 (.array .int) 3 [vR x8a,vR x8b,vR x8c] .null)(PV36:Arv Z h0 x8c kc8 .int 3 [vI 21,vI 21,vI 22] (vI 0)) :
    own_Met l mn18 prog_28_method_6_code 9 (some .long) ws (oRm 0 0 0 0) #[vR b5,vI 2,(.long j6)] Z h0 (Q17a63 Z j6 h0 n0):=by
  refine own_met (own:=oLy) rfl (plainFor_of_name pn_0) ?_
  intro p e s m below meth c s₁ hx hby hml hZ hown hnm X0 e0 Br Bs
  have N0:=Fr.nil n0
  have tt:=own_tt hx hby own_ok17
  refine oV 0 #[oR b5,oI 2,oQ j6,oS,oU,oU,oU,oU,oU] [] ?_
  refine oX3 a0 [b5,b7,b8,x7a,x7b,x7c,x8a,x8b,x8c] [0,k7,k8,0,0,kc7,0,0,kc8] [fE17_29 0 (vR 2),fE17_26 0 (vR 1)] [(86,(-1))] [] [2,8,1,5] 9 [oR 0,oI 2,oQ j6,oS,oU,oU,oU,oU,oU] [] [(2,(.array .int),3,[vR 6,vR 7,vR 8]),(8,.int,3,[vI 21,vI 21,vI 22]),(1,(.array .int),3,[vR 3,vR 4,vR 5]),(5,.int,3,[vI 21,vI 0,vI 42])] 73 [oR 0,oI 2,oQ j6,oS,oQ (kf (kf (kf 0 j6 21 21) j6 0 21) j6 42 22),oS,oI 3,oQ (kg j6 42 22),oS] [.long (kf (kf (kf 0 j6 21 21) j6 0 21) j6 42 22)] [] tt hZ hown X0 N0 e0 (oA (ow94 hw) (oA (ow92 hw) trivial)) (oA (ow131 hw) trivial) (oA PF4 (oA PF3 trivial)) (oA PV30 (oA PV36 (oA PV22 (oA PV28 trivial)))) (Or.inl rfl) trivial rfl rfl (by decide +kernel) _ (oC 11 18 [oR 0,oI 2,oQ j6,oS,oQ 0,oS,oI 0,oU,oU] [] rfl (oC 10 34 [oR 0,oI 2,oQ j6,oS,oQ 0,oS,oI 0,oU,oU] [vI 64,.long (-1),.long (kh j6 21)] rfl (oC 10 48 [oR 0,oI 2,oQ j6,oS,oQ 0,oS,oI 0,oQ (kg j6 21 21),oS] [] rfl (oC 11 65 [oR 0,oI 2,oQ j6,oS,oQ (kf 0 j6 21 21),oS,oI 0,oQ (kg j6 21 21),oS] [] rfl (oC 9 18 [oR 0,oI 2,oQ j6,oS,oQ (kf 0 j6 21 21),oS,oI 1,oQ (kg j6 21 21),oS] [] rfl (oC 10 34 [oR 0,oI 2,oQ j6,oS,oQ (kf 0 j6 21 21),oS,oI 1,oQ (kg j6 21 21),oS] [vI 64,.long (-1),.long (kh j6 0)] rfl (oC 10 48 [oR 0,oI 2,oQ j6,oS,oQ (kf 0 j6 21 21),oS,oI 1,oQ (kg j6 0 21),oS] [] rfl (oC 11 65 [oR 0,oI 2,oQ j6,oS,oQ (kf (kf 0 j6 21 21) j6 0 21),oS,oI 1,oQ (kg j6 0 21),oS] [] rfl (oC 9 18 [oR 0,oI 2,oQ j6,oS,oQ (kf (kf 0 j6 21 21) j6 0 21),oS,oI 2,oQ (kg j6 0 21),oS] [] rfl (oC 10 34 [oR 0,oI 2,oQ j6,oS,oQ (kf (kf 0 j6 21 21) j6 0 21),oS,oI 2,oQ (kg j6 0 21),oS] [vI 64,.long (-1),.long (kh j6 42)] rfl (oC 10 48 [oR 0,oI 2,oQ j6,oS,oQ (kf (kf 0 j6 21 21) j6 0 21),oS,oI 2,oQ (kg j6 42 22),oS] [] rfl (oC 11 65 [oR 0,oI 2,oQ j6,oS,oQ (kf (kf (kf 0 j6 21 21) j6 0 21) j6 42 22),oS,oI 2,oQ (kg j6 42 22),oS] [] (n2:=10) rfl rfl)))))))))))) fun T9 h9 _ X9 N9 e9 K9 q9 M9=>?_
  have e9:=e9.trans (q9 rfl)
  refine oV 73 #[oR b5,oI 2,oQ j6,oS,oQ (kf (kf (kf 0 j6 21 21) j6 0 21) j6 42 22),oS,oI 3,oQ (kg j6 42 22),oS] [(.long (kf (kf (kf 0 j6 21 21) j6 0 21) j6 42 22))] ?_
  refine own_ret X9 (v:=some (.long (kf (kf (kf 0 j6 21 21) j6 0 21) j6 42 22))) (oN Br) Bs (fun fs hr=>own_retL X9 hx Br (hb hby d17_73) hr) ?_ (by decide) (by decide)
  unfold Q17a63
  exact ⟨rfl,N9,e9⟩
def Q19a64 (Z:State)  (h0:Heap)(n0:Nat)(v:Option Value)(h:Heap)(L:List Loc):Prop:=v = some (.long (-4398044413953:Int64))∧Fr n0 L∧h = h0
set_option maxRecDepth 65536 in
set_option maxHeartbeats 40000000 in
theorem rm19a64 (l:Launch)(Z:State)(a0:Array Value)(hw:HW a0 Z)(ws:List Jvm.Cond)(b6 b7 b8 b9:Addr)(k7:ClassId)(x7a x7b x7c:Addr)(kc7 k8:ClassId)(x8a x8b x8c:Addr)(kc8 k9:ClassId)(h0:Heap)(n0:Nat)(Z0:n0≤h0.size)(PF3:oF3 Z h0 b6 (vR b7))(PF4:oF4 Z h0 b6 (vR b8))(PF5:oF5 Z h0 b6 (vR b9))(PV22:Arv Z h0 b7 k7 (.array .int) 3 [vR x7a,vR x7b,vR x7c] .null)(PV26:Arv Z h0 x7b kc7 .int 3 [vI 42,vI 0,vI 21] (vI 0))(PV30:Arv Z h0 b8 k8 (.array .int) 3 [vR x8a,vR x8b,vR x8c] .null)(PV34:Arv Z h0 x8b kc8 .int 3 [vI 22,vI 21,vI 21] (vI 0))(PV38:Arv Z h0 b9 k9 .int 3 [vI 43,vI 43,vI 42] (vI 0)) :
    own_Met l mn20 prog_28_method_8_code 6 (some .long) ws (oRm 0 0 0 0) #[vR b6,vI 1] Z h0 (Q19a64 Z  h0 n0):=by
  refine own_met (own:=oLy) rfl (plainFor_of_name pn_0) ?_
  intro p e s m below meth c s₁ hx hby hml hZ hown hnm X0 e0 Br Bs
  have N0:=Fr.nil n0
  have tt:=own_tt hx hby own_ok19
  refine oV 0 #[oR b6,oI 1,oU,oU,oU,oU] [] ?_
  refine oX2 a0 [b6,b7,b8,b9,x7a,x7b,x7c,x8a,x8b,x8c] [0,k7,k8,k9,0,kc7,0,0,kc8,0] [fE19_32 0 (vR 3),fE19_29 0 (vR 2),fE19_26 0 (vR 1)] [(86,(-1))] [] [3,2,8,1,5] 10 [oR 0,oI 1,oU,oU,oU,oU] [] [(3,.int,3,[vI 43,vI 43,vI 42]),(2,(.array .int),3,[vR 7,vR 8,vR 9]),(8,.int,3,[vI 22,vI 21,vI 21]),(1,(.array .int),3,[vR 4,vR 5,vR 6]),(5,.int,3,[vI 42,vI 0,vI 21])] 68 [oR 0,oI 1,oQ (-4398044413953),oS,oI 0,oI 2] [.long (-4398044413953)] [] tt hZ hown X0 N0 e0 (oA (ow96 hw) (oA (ow94 hw) (oA (ow92 hw) trivial))) (oA (ow131 hw) trivial) (oA PF5 (oA PF4 (oA PF3 trivial))) (oA PV38 (oA PV30 (oA PV34 (oA PV22 (oA PV26 trivial))))) (Or.inl rfl) trivial rfl rfl (by decide +kernel) 78 (by decide +kernel) fun T10 h10 _ X10 N10 e10 K10 q10 M10=>?_
  have e10:=e10.trans (q10 rfl)
  refine oV 68 #[oR b6,oI 1,oQ (-4398044413953:Int64),oS,oI 0,oI 2] [(.long (-4398044413953:Int64))] ?_
  refine own_ret X10 (v:=some (.long (-4398044413953:Int64))) (oN Br) Bs (fun fs hr=>own_retL X10 hx Br (hb hby d19_68) hr) ?_ (by decide) (by decide)
  unfold Q19a64
  exact ⟨rfl,N10,e10⟩
def Q1a39 (Z:State)(b3:Addr)(h0:Heap)(n0:Nat)(v:Option Value)(h:Heap)(L:List Loc):Prop:=∃ (b4:Addr)(k4:ClassId)(x4a:Addr)(kc4:ClassId)(x4b x4c b5:Addr)(k5:ClassId)(x5a:Addr)(kc5:ClassId)(x5b x5c:Addr),v = none∧Fr n0 L∧Keep h0 h [b3]∧n0≤b4∧h0.size≤b4∧n0≤x4a∧h0.size≤x4a∧n0≤x4b∧h0.size≤x4b∧n0≤x4c∧h0.size≤x4c∧n0≤b5∧h0.size≤b5∧n0≤x5a∧h0.size≤x5a∧n0≤x5b∧h0.size≤x5b∧n0≤x5c∧h0.size≤x5c∧x4a≠b4∧x4b≠b4∧x4b≠x4a∧x4c≠b4∧x4c≠x4a∧x4c≠x4b∧b5≠b4∧b5≠x4a∧b5≠x4b∧b5≠x4c∧x5a≠b4∧x5a≠x4a∧x5a≠x4b∧x5a≠x4c∧x5a≠b5∧x5b≠b4∧x5b≠x4a∧x5b≠x4b∧x5b≠x4c∧x5b≠b5∧x5b≠x5a∧x5c≠b4∧x5c≠x4a∧x5c≠x4b∧x5c≠x4c∧x5c≠b5∧x5c≠x5a∧x5c≠x5b∧oF3 Z h b3 (vR b4)∧oF4 Z h b3 (vR b5)∧Arv Z h b4 k4 (.array .int) 3 [vR x4a,vR x4b,vR x4c] .null∧OvrA Z k4 .int "[I"∧Exa Z h b4 "[[I"∧Arv Z h x4a kc4 .int 3 [vI 42,vI 21,vI 0] (vI 0)∧Exa Z h x4a "[I"∧Arv Z h x4b kc4 .int 3 [vI 42,vI 0,vI 21] (vI 0)∧Exa Z h x4b "[I"∧Arv Z h x4c kc4 .int 3 [vI 21,vI 0,vI 42] (vI 0)∧Exa Z h x4c "[I"∧Arv Z h b5 k5 (.array .int) 3 [vR x5a,vR x5b,vR x5c] .null∧OvrA Z k5 .int "[I"∧Exa Z h b5 "[[I"∧Arv Z h x5a kc5 .int 3 [vI 22,vI 21,vI 21] (vI 0)∧Exa Z h x5a "[I"∧Arv Z h x5b kc5 .int 3 [vI 22,vI 21,vI 21] (vI 0)∧Exa Z h x5b "[I"∧Arv Z h x5c kc5 .int 3 [vI 21,vI 21,vI 22] (vI 0)∧Exa Z h x5c "[I"
set_option maxRecDepth 65536 in
set_option maxHeartbeats 40000000 in
theorem rm1a39 (l:Launch)(Z:State)(a0:Array Value)(hw:HW a0 Z)(ws:List Jvm.Cond)(b12 wd:Addr)(kd:ClassId)(h0:Heap)(n0:Nat)(Z0:n0≤h0.size)(PS0:Sta Z h0 "java/util/ArrayList" "DEFAULTCAPACITY_EMPTY_ELEMENTDATA" "[Ljava/lang/Object;" (vR wd))(PV1:Arv Z h0 wd kd (.object oOb) 0 [] .null)(PE2:Exa Z h0 b12 oLy)(PF3:oF3 Z h0 b12 .null)(PF4:oF4 Z h0 b12 .null)(PF5:oF5 Z h0 b12 .null)(PF6:oF6 Z h0 b12 .null)(n_b12:n0≤b12) :
    own_Met l mn17 prog_28_method_1_code 13 none ws (oRm 8 26 73 123) #[vR b12,vI 1,vI 3] Z h0 (Q1a39 Z b12 h0 n0):=by
  refine own_met (own:=oLy) rfl (plainFor_of_name pn_0) ?_
  intro p e s m below meth c s₁ hx hby hml hZ hown hnm X0 e0 Br Bs
  have N0:=Fr.nil n0
  have tt:=own_tt hx hby own_ok1
  refine oV 0 #[oR b12,oI 1,oI 3,oU,oU,oU,oU,oU,oU,oU,oU,oU,oU] [] ?_
  refine oG X0 tt 1 1 #[oR b12,oI 1,oI 3,oU,oU,oU,oU,oU,oU,oU,oU,oU,oU] [vR b12] rfl ?_
  obtain ⟨T13,X13,e13,st13⟩:=initO X0 hx hZ hown (ow7 hw) (ow8 hw) (ow9 hw) e0 (g:=(mkF m 1 #[oR b12,oI 1,oI 3,oU,oU,oU,oU,oU,oU,oU,oU,oU,oU] [vR b12])) rfl hml.symm rfl (hb hby d1_1) (by decide) (W:=0) (oZ rfl) (by decide)
  refine oH st13 X13 tt 3 7 #[oR b12,oI 1,oI 3,oU,oU,oU,oU,oU,oU,oU,oU,oU,oU] [vI 4] rfl ?_
  obtain ⟨T14,h14,k14,X14,e14,E14,A14,EA14,st14⟩:=newPE (aty:=.int) X13 hx hZ (ow10 hw) e13 (g:=(mkF m 7 #[oR b12,oI 1,oI 3,oU,oU,oU,oU,oU,oU,oU,oU,oU,oU] [vI 4])) rfl (hb hby d1_7) rfl (by decide) (cap:=4) (by decide) (by decide) (by decide) (by decide) (ad:="[I") (by decide +kernel)
  obtain ⟨b14,g_b14⟩:∃ z,z = h0.size:=⟨_,rfl⟩
  have sg_b14:h0.size≤b14:=Nat.le_of_eq g_b14.symm
  rw [← g_b14] at A14 EA14 st14
  have n_b14:=oT Z0 sg_b14
  have sz_b14:=oT (Keep.refl h0 [b12]).1 sg_b14
  have K14:Keep h0 h14 [b12]:=(Keep.refl h0 [b12]).ext E14
  have V_b14:Arv Z h14 b14 k14 .int 4 own_ls1 (vI 0):=(Arv.new A14 (by decide)).pad (pad_rep [] (vI 0) 4)
  refine oJ 9 #[oR b12,oI 1,oI 3,oU,oU,oU,oU,oU,oU,oU,oU,oU,oU] [vR b14] st14 ?_
  have l15:b12 < b14:=oW PE2.lt sz_b14
  refine oX2 a0 [b12,b14] [0,k14] [] [] [1] [1] 2 [oR 0,oI 1,oI 3,oU,oU,oU,oU,oU,oU,oU,oU,oU,oU] [vR 1] [(1,.int,4,[vI 0,vI 0,vI 0,vI 0])] 55 [oR 0,oI 1,oI 3,oR 1,oI 3,oU,oU,oU,oU,oU,oU,oU,oU] [] [(1,[vI 0,vI 22,vI 43,vI 64])] tt hZ hown X14 N0 e14 trivial trivial trivial (oA V_b14 trivial) (Or.inr (oA l15 trivial)) (oA n_b14 trivial) rfl rfl (by decide +kernel) 79 (by decide +kernel) fun T16 h16 _ X16 N16 e16 K16 q16 M16=>?_
  have Kq16:Keep h14 h16 [b14]:=K16
  have KK16:Keep h0 h16 [b12]:=Keep.trans K14 Kq16 (allS (Or.inr sz_b14) all0)
  obtain ⟨v16_0,-⟩:=M16
  have V16_0:Arv Z h16 b14 k14 .int 4 own_ls2 (vI 0):=v16_0
  refine oV 55 #[oR b12,oI 1,oI 3,oR b14,oI 3,oU,oU,oU,oU,oU,oU,oU,oU] [] ?_
  obtain ⟨T17,h17,X17,e17,E17,A17,D17,-,st17⟩:=newO X16 hx hZ hown (ow11 hw) (ow12 hw) (ow13 hw) e16 (g:=(mkF m 55 #[oR b12,oI 1,oI 3,oR b14,oI 3,oU,oU,oU,oU,oU,oU,oU,oU] [])) rfl (hb hby d1_55) (by decide) (by decide)
  obtain ⟨b17,g_b17⟩:∃ z,z = h16.size:=⟨_,rfl⟩
  have sg_b17:h16.size≤b17:=Nat.le_of_eq g_b17.symm
  rw [← g_b17] at A17 D17 st17
  have n_b17:=oT (oT (oT Z0 E14.1) Kq16.1) sg_b17
  have sz_b17:=oT KK16.1 sg_b17
  have u18:=(oW V_b14.lt Kq16.1)
  have m19:h0.size≤h16.size:=(oT (oT (Nat.le_refl _) E14.1) Kq16.1)
  have K17:Keep h0 h17 [b12]:=KK16.ext E17
  have F_modCount_b17:oF0 Z h17 b17 (vI 0):=D17 (Or.inl (ow31 hw)) (ty:=.int) (by decide)
  have F_elementData_b17:oF1 Z h17 b17 .null:=D17 (Or.inl (ow34 hw)) (ty:=(.array (.object oOb))) (by decide)
  have F_size_b17:oF2 Z h17 b17 (vI 0):=D17 (Or.inl (ow59 hw)) (ty:=.int) (by decide)
  refine oH st17 X17 tt 1 59 #[oR b12,oI 1,oI 3,oR b14,oI 3,oU,oU,oU,oU,oU,oU,oU,oU] [vR b17,vR b17] rfl ?_
  have G20:=((own_sta_keep (PS0.ext E14) Kq16 (own_wsV V_b14 own_ws0)).ext E17)
  refine own_cN X17 hx hZ hown e17 rfl (ow14 hw) (ow15 hw) (ow13 hw) (ow16 hw) (y:=mn2) (b:=b17) (argsL:=[]) (rest:=[vR b17]) (W:=1) hml.symm (hb hby d1_59) (lenOf pd2 rfl) rfl (by decide) (rm3a2 l Z a0 hw [] b17 wd h17 n0 (oT (oT (oT Z0 E14.1) Kq16.1) E17.1) G20 A17 F_modCount_b17 F_elementData_b17 F_size_b17 n_b17) fun _ T21 _ X21 hQ21=>?_
  obtain ⟨rfl,N21q,K21,g21_0,g21_1,g21_2⟩:=hQ21
  have N21:=Fr.app N16 N21q
  have eK21:T21.heap = T21.heap:=rfl
  have KK21:Keep h0 T21.heap [b12]:=Keep.trans K17 K21 (allS (Or.inr sz_b17) all0)
  obtain ⟨_,X21,N21⟩:=own_hide X21 N21
  refine oV 62 #[oR b12,oI 1,oI 3,oR b14,oI 3,oU,oU,oU,oU,oU,oU,oU,oU] [vR b17] ?_
  refine oG X21 tt 9 72 #[oR b12,oI 1,oI 3,oR b14,oR b17,oU,oU,oU,oU,oU,oU,oU,oU] [vI 2,vI 0,vI 2,vI 3] rfl ?_
  obtain ⟨T22,h22,k22,X22,e22,E22,A22,EA22,st22⟩:=newPE (aty:=.int) X21 hx hZ (ow10 hw) eK21 (g:=(mkF m 72 #[oR b12,oI 1,oI 3,oR b14,oR b17,oU,oU,oU,oU,oU,oU,oU,oU] [vI 2,vI 0,vI 2,vI 3])) rfl (hb hby d1_72) rfl (by decide) (cap:=2) (by decide) (by decide) (by decide) (by decide) (ad:="[I") (by decide +kernel)
  obtain ⟨b22,g_b22⟩:∃ z,z = T21.heap.size:=⟨_,rfl⟩
  have sg_b22:T21.heap.size≤b22:=Nat.le_of_eq g_b22.symm
  rw [← g_b22] at A22 EA22 st22
  have n_b22:=oT (oT (oT (oT (oT Z0 E14.1) Kq16.1) E17.1) K21.1) sg_b22
  have sz_b22:=oT KK21.1 sg_b22
  have u23:=(oW A17.lt K21.1)
  have m24:h16.size≤T21.heap.size:=(oT (oT (Nat.le_refl _) E17.1) K21.1)
  have K22:Keep h0 h22 [b12]:=KK21.ext E22
  have V_b22:Arv Z h22 b22 k22 .int 2 [vI 0,vI 0] (vI 0):=(Arv.new A22 (by decide)).pad (pad_rep [] (vI 0) 2)
  refine oH st22 X22 tt 2 77 #[oR b12,oI 1,oI 3,oR b14,oR b17,oU,oU,oU,oU,oU,oU,oU,oU] [vR b17,vI 0,vR b22,vI 0,vI 2,vI 3] rfl ?_
  have G25:=(((((PV1.ext E14).keep Kq16 (ninS (oL PV1.lt sz_b14) nin0)).ext E17).keep K21 (ninS (oL PV1.lt sz_b17) nin0)).ext E22)
  refine own_cS X22 hx hZ hown e22 (ow35 hw) (ow36 hw) (ow3 hw) (ow37 hw) (y:=mn9) (argsL:=[vI 3,vI 2,vI 0,vR b22,vI 0,vR b17]) (rest:=[]) (W:=0) hml.symm (hb hby d1_77) (lenOf pd9 rfl) rfl (by decide) (rm6a40 l Z a0 hw [] b22 b17 wd kd k22 h22 n0 (oT (oT (oT (oT (oT Z0 E14.1) Kq16.1) E17.1) K21.1) E22.1) ((own_sta_keep G20 K21 (own_wsE A17 own_ws0)).ext E22) G25 ((A17.keep K21).ext E22) (g21_0.ext E22) (g21_1.ext E22) (g21_2.ext E22) V_b22 EA22 (oL PV1.lt sz_b17) (oL PV1.lt sz_b22) (oL u23 sg_b22) (oM u23 sg_b22) n_b22 n_b17) fun _ T26 _ X26 hQ26=>?_
  obtain ⟨b26a,k26b,b26c,b26d,b26e,rfl,N26q,K26,n_b26a,sg_b26a,n_b26c,sg_b26c,n_b26d,sg_b26d,n_b26e,sg_b26e,ne26_0,ne26_1,ne26_2,ne26_3,ne26_4,ne26_5,g26_0,g26_1,g26_2,g26_3,g26_4,g26_5,g26_6,g26_7,g26_8,g26_9,g26_10,g26_11⟩:=hQ26
  have N26:=Fr.app N21 N26q
  have sz_b26a:=oT K22.1 sg_b26a
  have sz_b26c:=oT K22.1 sg_b26c
  have sz_b26d:=oT K22.1 sg_b26d
  have sz_b26e:=oT K22.1 sg_b26e
  have u27:b22 < h22.size:=V_b22.lt
  have m28:T21.heap.size≤h22.size:=(oT (Nat.le_refl _) E22.1)
  have eK26:T26.heap = T26.heap:=rfl
  have KK26:Keep h0 T26.heap [b12]:=Keep.trans K22 K26 (allS (Or.inr sz_b22) (allS (Or.inr sz_b17) all0))
  obtain ⟨_,X26,N26⟩:=own_hide X26 N26
  refine oV 80 #[oR b12,oI 1,oI 3,oR b14,oR b17,oU,oU,oU,oU,oU,oU,oU,oU] [] ?_
  refine oG X26 tt 2 83 #[oR b12,oI 1,oI 3,oR b14,oR b17,oU,oU,oU,oU,oU,oU,oU,oU] [vR b17,vR b12] rfl ?_
  have Zs29:n0≤T26.heap.size:=(oT (oT (oT (oT (oT (oT Z0 E14.1) Kq16.1) E17.1) K21.1) E22.1) K26.1)
  refine own_cI X26 hx hZ hown eK26 (ow82 hw) (ow83 hw) (mvT hZ (ow84 hw)) (ow85 hw) (ow86 hw) (ow87 hw) (ow88 hw) (ow54 hw) (ow13 hw) (ow89 hw) (((A17.keep K21).ext E22).keep K26) (y:=mn11) (z:=mn10) (argsL:=[]) (rest:=[vR b12]) (W:=1) hml.symm (hb hby d1_83) (lenOf pd0 rfl) rfl (by decide) (rm12a48 l Z a0 hw [] b17 T26.heap n0 Zs29 g26_3) fun _ T30 _ X30 hQ30=>?_
  obtain ⟨rfl,N30q,hh30⟩:=hQ30
  have N30:=Fr.app N26 N30q
  obtain ⟨_,X30,N30⟩:=own_hide X30 N30
  refine oV 88 #[oR b12,oI 1,oI 3,oR b14,oR b17,oU,oU,oU,oU,oU,oU,oU,oU] [vI 3,vR b12] ?_
  refine oG X30 tt 1 89 #[oR b12,oI 1,oI 3,oR b14,oR b17,oU,oU,oU,oU,oU,oU,oU,oU] [vI 3,vI 3,vR b12] rfl ?_
  obtain ⟨T31,h31,k31,kc31,X31,e31,E31,A31,O31,EA31,I31,st31⟩:=gridM X30 hx hZ (C:="[I") (ad:="[[I") (ty:=.int) hown (by decide +kernel) (by decide +kernel) (ow90 hw) (ow91 hw) (ow10 hw) hh30 (g:=(mkF m 89 #[oR b12,oI 1,oI 3,oR b14,oR b17,oU,oU,oU,oU,oU,oU,oU,oU] [vI 3,vI 3,vR b12])) rfl (hb hby d1_89) rfl (by decide) (by decide) (N:=3) (by decide) rfl (cap:=3) (by decide) (by decide) (by decide) rfl rfl (by decide) (by decide)
  obtain ⟨b31,g_b31⟩:∃ z,z = T26.heap.size:=⟨_,rfl⟩
  obtain ⟨x31a,g_x31a⟩:∃ z,z = T26.heap.size + 1 + 0:=⟨_,rfl⟩
  obtain ⟨x31b,g_x31b⟩:∃ z,z = T26.heap.size + 1 + 1:=⟨_,rfl⟩
  obtain ⟨x31c,g_x31c⟩:∃ z,z = T26.heap.size + 1 + 2:=⟨_,rfl⟩
  have sg_b31:T26.heap.size≤b31:=by omega
  have n_b31:=oT Zs29 sg_b31
  have sz_b31:=oT KK26.1 sg_b31
  have sg_x31a:T26.heap.size≤x31a:=by omega
  have n_x31a:=oT Zs29 sg_x31a
  have sz_x31a:=oT KK26.1 sg_x31a
  have sg_x31b:T26.heap.size≤x31b:=by omega
  have n_x31b:=oT Zs29 sg_x31b
  have sz_x31b:=oT KK26.1 sg_x31b
  have sg_x31c:T26.heap.size≤x31c:=by omega
  have n_x31c:=oT Zs29 sg_x31c
  have sz_x31c:=oT KK26.1 sg_x31c
  have u32:b26a < T26.heap.size:=g26_4.lt
  have u33:b26c < T26.heap.size:=g26_6.lt
  have u34:b26d < T26.heap.size:=g26_8.lt
  have u35:b26e < T26.heap.size:=g26_10.lt
  have m36:h22.size≤T26.heap.size:=(oT (Nat.le_refl _) K26.1)
  have nn_x31a_b31:x31a≠b31:=by omega
  have nn_x31b_b31:x31b≠b31:=by omega
  have nn_x31b_x31a:x31b≠x31a:=by omega
  have nn_x31c_b31:x31c≠b31:=by omega
  have nn_x31c_x31a:x31c≠x31a:=by omega
  have nn_x31c_x31b:x31c≠x31b:=by omega
  have K31:Keep h0 h31 [b12]:=KK26.ext E31
  have V_b31:Arv Z h31 b31 k31 (.array .int) 3 [vR x31a,vR x31b,vR x31c] .null:=by rw [g_b31,g_x31a,g_x31b,g_x31c]; exact A31
  have EE_b31:Exa Z h31 b31 "[[I":=by rw [g_b31]; exact EA31
  have V_x31a:Arv Z h31 x31a kc31 .int 3 [vI 0,vI 0,vI 0] (vI 0):=by rw [g_x31a]; exact (Arv.new (I31 0 _ rfl).1 (by decide)).pad (pad_rep [] (vI 0) 3)
  have EE_x31a:Exa Z h31 x31a "[I":=by rw [g_x31a]; exact (I31 0 _ rfl).2
  have V_x31b:Arv Z h31 x31b kc31 .int 3 [vI 0,vI 0,vI 0] (vI 0):=by rw [g_x31b]; exact (Arv.new (I31 1 _ rfl).1 (by decide)).pad (pad_rep [] (vI 0) 3)
  have EE_x31b:Exa Z h31 x31b "[I":=by rw [g_x31b]; exact (I31 1 _ rfl).2
  have V_x31c:Arv Z h31 x31c kc31 .int 3 [vI 0,vI 0,vI 0] (vI 0):=by rw [g_x31c]; exact (Arv.new (I31 2 _ rfl).1 (by decide)).pad (pad_rep [] (vI 0) 3)
  have EE_x31c:Exa Z h31 x31c "[I":=by rw [g_x31c]; exact (I31 2 _ rfl).2
  rw [← g_b31] at st31
  refine oJ 93 #[oR b12,oI 1,oI 3,oR b14,oR b17,oU,oU,oU,oU,oU,oU,oU,oU] [vR b31,vR b12] st31 ?_
  have G37:=(((((((PE2.ext E14).keep Kq16).ext E17).keep K21).ext E22).keep K26).ext E31)
  have K38:Keep _ h31 [b14,b17,b22]:=(Keep.trans ((Keep.trans ((Keep.trans ((Keep.refl _ _).ext E14) Kq16 (allS oI0 all0)).ext E17) K21 (allS oI1 all0)).ext E22) K26 (allS oI2 (allS oI1 all0))).ext E31
  have G39:=(PF3.keep K38 (ninS (oL PE2.lt sz_b14) (ninS (oL PE2.lt sz_b17) (ninS (oL PE2.lt sz_b22) nin0))))
  obtain ⟨T40,h40,X40,e40,W40,st40⟩:=putF X31 hx hZ hown (host:="") (Or.inl (ow92 hw)) Via.refl e31 G39 G37 (Or.inr ⟨(ow93 hw),rfl,hnm⟩) (ow2 hw) (ty:=(.array (.array .int))) (by decide) rfl rfl (g:=(mkF m 93 #[oR b12,oI 1,oI 3,oR b14,oR b17,oU,oU,oU,oU,oU,oU,oU,oU] [vR b31,vR b12])) rfl rfl (hb hby d1_93)
  have Fw40:=Fld.same W40 G39
  have K40:Keep h0 h40 [b12]:=K31.wr W40 oI0
  have N40:=Fr.snoc X40 N30 n_b12
  refine oH st40 X40 tt 2 99 #[oR b12,oI 1,oI 3,oR b14,oR b17,oU,oU,oU,oU,oU,oU,oU,oU] [vR b17,vR b12] rfl ?_
  refine own_cI X40 hx hZ hown e40 (ow82 hw) (ow83 hw) (mvT hZ (ow84 hw)) (ow85 hw) (ow86 hw) (ow87 hw) (ow88 hw) (ow54 hw) (ow13 hw) (ow89 hw) (((((A17.keep K21).ext E22).keep K26).ext E31).wr W40) (y:=mn11) (z:=mn10) (argsL:=[]) (rest:=[vR b12]) (W:=1) hml.symm (hb hby d1_99) (lenOf pd0 rfl) rfl (by decide) (rm12a48 l Z a0 hw [] b17 h40 n0 (oT (oT Zs29 E31.1) (Keep.of_wr W40).1) ((g26_3.ext E31).other W40 (Or.inl (oM PE2.lt sz_b17)))) fun _ T41 _ X41 hQ41=>?_
  obtain ⟨rfl,N41q,hh41⟩:=hQ41
  have N41:=Fr.app N40 N41q
  obtain ⟨_,X41,N41⟩:=own_hide X41 N41
  refine oV 104 #[oR b12,oI 1,oI 3,oR b14,oR b17,oU,oU,oU,oU,oU,oU,oU,oU] [vI 3,vR b12] ?_
  refine oG X41 tt 1 105 #[oR b12,oI 1,oI 3,oR b14,oR b17,oU,oU,oU,oU,oU,oU,oU,oU] [vI 3,vI 3,vR b12] rfl ?_
  obtain ⟨T42,h42,k42,kc42,X42,e42,E42,A42,O42,EA42,I42,st42⟩:=gridM X41 hx hZ (C:="[I") (ad:="[[I") (ty:=.int) hown (by decide +kernel) (by decide +kernel) (ow90 hw) (ow91 hw) (ow10 hw) hh41 (g:=(mkF m 105 #[oR b12,oI 1,oI 3,oR b14,oR b17,oU,oU,oU,oU,oU,oU,oU,oU] [vI 3,vI 3,vR b12])) rfl (hb hby d1_105) rfl (by decide) (by decide) (N:=3) (by decide) rfl (cap:=3) (by decide) (by decide) (by decide) rfl rfl (by decide) (by decide)
  obtain ⟨b42,g_b42⟩:∃ z,z = h40.size:=⟨_,rfl⟩
  obtain ⟨x42a,g_x42a⟩:∃ z,z = h40.size + 1 + 0:=⟨_,rfl⟩
  obtain ⟨x42b,g_x42b⟩:∃ z,z = h40.size + 1 + 1:=⟨_,rfl⟩
  obtain ⟨x42c,g_x42c⟩:∃ z,z = h40.size + 1 + 2:=⟨_,rfl⟩
  have sg_b42:h40.size≤b42:=by omega
  have n_b42:=oT (oT (oT Zs29 E31.1) (Keep.of_wr W40).1) sg_b42
  have sz_b42:=oT K40.1 sg_b42
  have sg_x42a:h40.size≤x42a:=by omega
  have n_x42a:=oT (oT (oT Zs29 E31.1) (Keep.of_wr W40).1) sg_x42a
  have sz_x42a:=oT K40.1 sg_x42a
  have sg_x42b:h40.size≤x42b:=by omega
  have n_x42b:=oT (oT (oT Zs29 E31.1) (Keep.of_wr W40).1) sg_x42b
  have sz_x42b:=oT K40.1 sg_x42b
  have sg_x42c:h40.size≤x42c:=by omega
  have n_x42c:=oT (oT (oT Zs29 E31.1) (Keep.of_wr W40).1) sg_x42c
  have sz_x42c:=oT K40.1 sg_x42c
  have u43:=(oW V_b31.lt (Keep.of_wr W40).1)
  have u44:=(oW V_x31a.lt (Keep.of_wr W40).1)
  have u45:=(oW V_x31b.lt (Keep.of_wr W40).1)
  have u46:=(oW V_x31c.lt (Keep.of_wr W40).1)
  have m47:T26.heap.size≤h40.size:=(oT (oT (Nat.le_refl _) E31.1) (Keep.of_wr W40).1)
  have nn_x42a_b42:x42a≠b42:=by omega
  have nn_x42b_b42:x42b≠b42:=by omega
  have nn_x42b_x42a:x42b≠x42a:=by omega
  have nn_x42c_b42:x42c≠b42:=by omega
  have nn_x42c_x42a:x42c≠x42a:=by omega
  have nn_x42c_x42b:x42c≠x42b:=by omega
  have K42:Keep h0 h42 [b12]:=K40.ext E42
  have V_b42:Arv Z h42 b42 k42 (.array .int) 3 [vR x42a,vR x42b,vR x42c] .null:=by rw [g_b42,g_x42a,g_x42b,g_x42c]; exact A42
  have EE_b42:Exa Z h42 b42 "[[I":=by rw [g_b42]; exact EA42
  have V_x42a:Arv Z h42 x42a kc42 .int 3 [vI 0,vI 0,vI 0] (vI 0):=by rw [g_x42a]; exact (Arv.new (I42 0 _ rfl).1 (by decide)).pad (pad_rep [] (vI 0) 3)
  have EE_x42a:Exa Z h42 x42a "[I":=by rw [g_x42a]; exact (I42 0 _ rfl).2
  have V_x42b:Arv Z h42 x42b kc42 .int 3 [vI 0,vI 0,vI 0] (vI 0):=by rw [g_x42b]; exact (Arv.new (I42 1 _ rfl).1 (by decide)).pad (pad_rep [] (vI 0) 3)
  have EE_x42b:Exa Z h42 x42b "[I":=by rw [g_x42b]; exact (I42 1 _ rfl).2
  have V_x42c:Arv Z h42 x42c kc42 .int 3 [vI 0,vI 0,vI 0] (vI 0):=by rw [g_x42c]; exact (Arv.new (I42 2 _ rfl).1 (by decide)).pad (pad_rep [] (vI 0) 3)
  have EE_x42c:Exa Z h42 x42c "[I":=by rw [g_x42c]; exact (I42 2 _ rfl).2
  rw [← g_b42] at st42
  refine oJ 109 #[oR b12,oI 1,oI 3,oR b14,oR b17,oU,oU,oU,oU,oU,oU,oU,oU] [vR b42,vR b12] st42 ?_
  have G48:=(((PF4.keep K38 (ninS (oL PE2.lt sz_b14) (ninS (oL PE2.lt sz_b17) (ninS (oL PE2.lt sz_b22) nin0)))).other W40 (Or.inr (sn_95_93 hw))).ext E42)
  obtain ⟨T49,h49,X49,e49,W49,st49⟩:=putF X42 hx hZ hown (host:="") (Or.inl (ow94 hw)) Via.refl e42 G48 ((G37.wr W40).ext E42) (Or.inr ⟨(ow95 hw),rfl,hnm⟩) (ow2 hw) (ty:=(.array (.array .int))) (by decide) rfl rfl (g:=(mkF m 109 #[oR b12,oI 1,oI 3,oR b14,oR b17,oU,oU,oU,oU,oU,oU,oU,oU] [vR b42,vR b12])) rfl rfl (hb hby d1_109)
  have Fw49:=Fld.same W49 G48
  have K49:Keep h0 h49 [b12]:=K42.wr W49 oI0
  have N49:=Fr.snoc X49 N41 n_b12
  refine oH st49 X49 tt 2 115 #[oR b12,oI 1,oI 3,oR b14,oR b17,oU,oU,oU,oU,oU,oU,oU,oU] [vR b17,vR b12] rfl ?_
  have G50:=((((g26_3.ext E31).other W40 (Or.inl (oM PE2.lt sz_b17))).ext E42).other W49 (Or.inl (oM PE2.lt sz_b17)))
  have G51:=(((((((A17.keep K21).ext E22).keep K26).ext E31).wr W40).ext E42).wr W49)
  refine own_cI X49 hx hZ hown e49 (ow82 hw) (ow83 hw) (mvT hZ (ow84 hw)) (ow85 hw) (ow86 hw) (ow87 hw) (ow88 hw) (ow54 hw) (ow13 hw) (ow89 hw) G51 (y:=mn11) (z:=mn10) (argsL:=[]) (rest:=[vR b12]) (W:=1) hml.symm (hb hby d1_115) (lenOf pd0 rfl) rfl (by decide) (rm12a48 l Z a0 hw [] b17 h49 n0 (oT (oT (oT (oT Zs29 E31.1) (Keep.of_wr W40).1) E42.1) (Keep.of_wr W49).1) G50) fun _ T52 _ X52 hQ52=>?_
  obtain ⟨rfl,N52q,hh52⟩:=hQ52
  have N52:=Fr.app N49 N52q
  obtain ⟨_,X52,N52⟩:=own_hide X52 N52
  refine oV 120 #[oR b12,oI 1,oI 3,oR b14,oR b17,oU,oU,oU,oU,oU,oU,oU,oU] [vI 3,vR b12] ?_
  obtain ⟨T53,h53,k53,X53,e53,E53,A53,EA53,st53⟩:=newPE (aty:=.int) X52 hx hZ (ow10 hw) hh52 (g:=(mkF m 120 #[oR b12,oI 1,oI 3,oR b14,oR b17,oU,oU,oU,oU,oU,oU,oU,oU] [vI 3,vR b12])) rfl (hb hby d1_120) rfl (by decide) (cap:=3) (by decide) (by decide) (by decide) (by decide) (ad:="[I") (by decide +kernel)
  obtain ⟨b53,g_b53⟩:∃ z,z = h49.size:=⟨_,rfl⟩
  have sg_b53:h49.size≤b53:=Nat.le_of_eq g_b53.symm
  rw [← g_b53] at A53 EA53 st53
  have n_b53:=oT (oT (oT (oT (oT Zs29 E31.1) (Keep.of_wr W40).1) E42.1) (Keep.of_wr W49).1) sg_b53
  have sz_b53:=oT K49.1 sg_b53
  have u54:=(oW V_b42.lt (Keep.of_wr W49).1)
  have u55:=(oW V_x42a.lt (Keep.of_wr W49).1)
  have u56:=(oW V_x42b.lt (Keep.of_wr W49).1)
  have u57:=(oW V_x42c.lt (Keep.of_wr W49).1)
  have m58:h40.size≤h49.size:=(oT (oT (Nat.le_refl _) E42.1) (Keep.of_wr W49).1)
  have K53:Keep h0 h53 [b12]:=K49.ext E53
  have V_b53:Arv Z h53 b53 k53 .int 3 [vI 0,vI 0,vI 0] (vI 0):=(Arv.new A53 (by decide)).pad (pad_rep [] (vI 0) 3)
  refine oJ 122 #[oR b12,oI 1,oI 3,oR b14,oR b17,oU,oU,oU,oU,oU,oU,oU,oU] [vR b53,vR b12] st53 ?_
  have G59:=(((((PF5.keep K38 (ninS (oL PE2.lt sz_b14) (ninS (oL PE2.lt sz_b17) (ninS (oL PE2.lt sz_b22) nin0)))).other W40 (Or.inr (sn_97_93 hw))).ext E42).other W49 (Or.inr (sn_97_95 hw))).ext E53)
  obtain ⟨T60,h60,X60,e60,W60,st60⟩:=putF X53 hx hZ hown (host:="") (Or.inl (ow96 hw)) Via.refl e53 G59 ((((G37.wr W40).ext E42).wr W49).ext E53) (Or.inr ⟨(ow97 hw),rfl,hnm⟩) (ow2 hw) (ty:=(.array .int)) (by decide) rfl rfl (g:=(mkF m 122 #[oR b12,oI 1,oI 3,oR b14,oR b17,oU,oU,oU,oU,oU,oU,oU,oU] [vR b53,vR b12])) rfl rfl (hb hby d1_122)
  have Fw60:=Fld.same W60 G59
  have K60:Keep h0 h60 [b12]:=K53.wr W60 oI0
  have N60:=Fr.snoc X60 N52 n_b12
  refine oH st60 X60 tt 4 132 #[oR b12,oI 1,oI 3,oR b14,oR b17,oI 0,oU,oU,oU,oU,oU,oU,oU] [vR b17,vI 0] rfl ?_
  have Zs61:n0≤h60.size:=(oT (oT (oT (oT (oT (oT Zs29 E31.1) (Keep.of_wr W40).1) E42.1) (Keep.of_wr W49).1) E53.1) (Keep.of_wr W60).1)
  refine own_cI X60 hx hZ hown e60 (ow82 hw) (ow83 hw) (mvT hZ (ow84 hw)) (ow85 hw) (ow86 hw) (ow87 hw) (ow88 hw) (ow54 hw) (ow13 hw) (ow89 hw) ((G51.ext E53).wr W60) (y:=mn11) (z:=mn10) (argsL:=[]) (rest:=[vI 0]) (W:=1) hml.symm (hb hby d1_132) (lenOf pd0 rfl) rfl (by decide) (rm12a48 l Z a0 hw [] b17 h60 n0 Zs61 ((G50.ext E53).other W60 (Or.inl (oM PE2.lt sz_b17)))) fun _ T62 _ X62 hQ62=>?_
  obtain ⟨rfl,N62q,hh62⟩:=hQ62
  have N62:=Fr.app N60 N62q
  obtain ⟨_,X62,N62⟩:=own_hide X62 N62
  refine oV 137 #[oR b12,oI 1,oI 3,oR b14,oR b17,oI 0,oU,oU,oU,oU,oU,oU,oU] [vI 3,vI 0] ?_
  refine oG X62 tt 2 141 #[oR b12,oI 1,oI 3,oR b14,oR b17,oI 0,oU,oU,oU,oU,oU,oU,oU] [vI 3] rfl ?_
  obtain ⟨T63,h63,k63,X63,e63,E63,A63,EA63,st63⟩:=newPE (aty:=.boolean) X62 hx hZ (ow98 hw) hh62 (g:=(mkF m 141 #[oR b12,oI 1,oI 3,oR b14,oR b17,oI 0,oU,oU,oU,oU,oU,oU,oU] [vI 3])) rfl (hb hby d1_141) rfl (by decide) (cap:=3) (by decide) (by decide) (by decide) (by decide) (ad:="[Z") (by decide +kernel)
  obtain ⟨b63,g_b63⟩:∃ z,z = h60.size:=⟨_,rfl⟩
  have sg_b63:h60.size≤b63:=Nat.le_of_eq g_b63.symm
  rw [← g_b63] at A63 EA63 st63
  have n_b63:=oT Zs61 sg_b63
  have sz_b63:=oT K60.1 sg_b63
  have u64:=(oW V_b53.lt (Keep.of_wr W60).1)
  have m65:h49.size≤h60.size:=(oT (oT (Nat.le_refl _) E53.1) (Keep.of_wr W60).1)
  have K63:Keep h0 h63 [b12]:=K60.ext E63
  have V_b63:Arv Z h63 b63 k63 .boolean 3 [vI 0,vI 0,vI 0] (vI 0):=(Arv.new A63 (by decide)).pad (pad_rep [] (vI 0) 3)
  refine oH st63 X63 tt 3 149 #[oR b12,oI 1,oI 3,oR b14,oR b17,oI 0,oR b63,oU,oU,oU,oU,oU,oU] [vI 0,vR b17] rfl ?_
  have K66:Keep _ h63 [b12]:=((((((Keep.refl _ _).wr W40 oI0).ext E42).wr W49 oI0).ext E53).wr W60 oI0).ext E63
  have G67:=((g26_2.ext E31).keep K66 (ninS (oM PE2.lt sz_b17) nin0))
  have G68:=(((G50.ext E53).other W60 (Or.inl (oM PE2.lt sz_b17))).ext E63)
  have G69:=((g26_4.ext E31).keep K66 (ninS (oM PE2.lt sz_b26a) nin0))
  refine own_cI X63 hx hZ hown e63 (ow99 hw) (ow100 hw) (mvT hZ (ow101 hw)) (ow102 hw) (ow103 hw) (ow104 hw) (ow105 hw) (ow54 hw) (ow13 hw) (ow106 hw) (((G51.ext E53).wr W60).ext E63) (y:=mn16) (z:=mn15) (argsL:=[vI 0]) (rest:=[]) (W:=0) hml.symm (hb hby d1_149) (lenOf pd5 rfl) rfl (by decide) (rm13a49 l Z a0 hw [] b17 b26a k26b b26c b26d b26e h63 n0 (oT Zs61 E63.1) (((G51.ext E53).wr W60).ext E63) G67 G68 G69) fun _ T70 _ X70 hQ70=>?_
  obtain ⟨rfl,N70q,hh70⟩:=hQ70
  have N70:=Fr.app N62 N70q
  obtain ⟨_,X70,N70⟩:=own_hide X70 N70
  refine oV 154 #[oR b12,oI 1,oI 3,oR b14,oR b17,oI 0,oR b63,oU,oU,oU,oU,oU,oU] [vR b26c] ?_
  have G71:=(((((((g26_7.ext E31).wr W40).ext E42).wr W49).ext E53).wr W60).ext E63)
  obtain ⟨T72,X72,e72,st72⟩:=castY X70 hx hZ hown (ow45 hw) hh70 (Ins.self G71) (g:=(mkF m 154 #[oR b12,oI 1,oI 3,oR b14,oR b17,oI 0,oR b63,oU,oU,oU,oU,oU,oU] [vR b26c])) rfl rfl (hb hby d1_154)
  refine oJ 157 #[oR b12,oI 1,oI 3,oR b14,oR b17,oI 0,oR b63,oU,oU,oU,oU,oU,oU] [vR b26c] st72 ?_
  have G73:=((g26_6.ext E31).keep K66 (ninS (oM PE2.lt sz_b26c) nin0))
  have l74:b14 < b17:=oW u18 sg_b17
  have l75:b17 < b26c:=oW u23 (oT m28 sg_b26c)
  have c76:=oT m47 m58
  have c77:=oT c76 m65
  have l78:b26c < b63:=oW u33 (oT c77 sg_b63)
  refine oX2 a0 [b12,b14,b17,b26c,b63] [0,0,0,k22,k63] [] [] [4] [3,4] 5 [oR 0,oI 1,oI 3,oR 1,oR 2,oI 0,oR 4,oU,oU,oU,oU,oU,oU] [vR 3] [(3,.int,2,[vI 0,vI 1]),(4,.boolean,3,[vI 0,vI 0,vI 0])] 197 [oR 0,oI 1,oI 3,oR 1,oR 2,oI 0,oR 4,oI 0,oI 2,oI 2,oI 1,oU,oU] [vI 2] [(4,[vI 1,vI 1,vI 0])] tt hZ hown X72 N70 e72 trivial trivial trivial (oA G73 (oA V_b63 trivial)) (Or.inr (oA l15 (oA l74 (oA l75 (oA l78 trivial))))) (oA n_b63 trivial) rfl rfl (by decide +kernel) 38 (by decide +kernel) fun T79 h79 _ X79 N79 e79 K79 q79 M79=>?_
  have Kq79:Keep h63 h79 [b63]:=K79
  have KK79:Keep h0 h79 [b12]:=Keep.trans K63 Kq79 (allS (Or.inr sz_b63) all0)
  obtain ⟨-,v79_1,-⟩:=M79
  have V79_1:Arv Z h79 b63 k63 .boolean 3 [vI 1,vI 1,vI 0] (vI 0):=v79_1
  refine oV 197 #[oR b12,oI 1,oI 3,oR b14,oR b17,oI 0,oR b63,oI 0,oI 2,oI 2,oI 1,oU,oU] [vI 2] ?_
  obtain ⟨T80,h80,k80,X80,e80,E80,A80,EA80,st80⟩:=newPE (aty:=.boolean) X79 hx hZ (ow98 hw) e79 (g:=(mkF m 197 #[oR b12,oI 1,oI 3,oR b14,oR b17,oI 0,oR b63,oI 0,oI 2,oI 2,oI 1,oU,oU] [vI 2])) rfl (hb hby d1_197) rfl (by decide) (cap:=2) (by decide) (by decide) (by decide) (by decide) (ad:="[Z") (by decide +kernel)
  obtain ⟨b80,g_b80⟩:∃ z,z = h79.size:=⟨_,rfl⟩
  have sg_b80:h79.size≤b80:=Nat.le_of_eq g_b80.symm
  rw [← g_b80] at A80 EA80 st80
  have n_b80:=oT (oT (oT Zs61 E63.1) Kq79.1) sg_b80
  have sz_b80:=oT KK79.1 sg_b80
  have u81:=(oW V_b63.lt Kq79.1)
  have m82:h60.size≤h79.size:=(oT (oT (Nat.le_refl _) E63.1) Kq79.1)
  have K80:Keep h0 h80 [b12]:=KK79.ext E80
  have V_b80:Arv Z h80 b80 k80 .boolean 2 [vI 0,vI 0] (vI 0):=(Arv.new A80 (by decide)).pad (pad_rep [] (vI 0) 2)
  refine oJ 199 #[oR b12,oI 1,oI 3,oR b14,oR b17,oI 0,oR b63,oI 0,oI 2,oI 2,oI 1,oU,oU] [vR b80] st80 ?_
  have c83:=oT m58 m65
  have q84:=oL u43 (oT c83 sg_b63)
  have G85:=(((V_b31.keep K66 (ninS (oM PE2.lt sz_b31) nin0)).keep Kq79 (ninS q84 nin0)).ext E80)
  have q86:=oL u18 (oT m24 sg_b22)
  have c87:=oT m24 m28
  have c88:=oT c87 m36
  have c89:=oT c88 m47
  have c90:=oT c89 m58
  have c91:=oT c90 m65
  have q92:=oL u18 (oT c91 sg_b63)
  have G93:=((((((((V16_0.ext E17).keep K21 (ninS (oL u18 sg_b17) nin0)).ext E22).keep K26 (ninS q86 (ninS (oL u18 sg_b17) nin0))).ext E31).keep K66 (ninS (oM PE2.lt sz_b14) nin0)).keep Kq79 (ninS q92 nin0)).ext E80)
  have q94:=oL u44 (oT c83 sg_b63)
  have G95:=(((V_x31a.keep K66 (ninS (oM PE2.lt sz_x31a) nin0)).keep Kq79 (ninS q94 nin0)).ext E80)
  have q96:=oL u54 (oT m65 sg_b63)
  have G97:=((((((V_b42.other W49 (oM PE2.lt sz_b42)).ext E53).other W60 (oM PE2.lt sz_b42)).ext E63).keep Kq79 (ninS q96 nin0)).ext E80)
  have q98:=oL u55 (oT m65 sg_b63)
  have G99:=((((((V_x42a.other W49 (oM PE2.lt sz_x42a)).ext E53).other W60 (oM PE2.lt sz_x42a)).ext E63).keep Kq79 (ninS q98 nin0)).ext E80)
  have G100:=((((V_b53.other W60 (oM PE2.lt sz_b53)).ext E63).keep Kq79 (ninS (oL u64 sg_b63) nin0)).ext E80)
  have G101:=(((((((Fw40.ext E42).other W49 (Or.inr (sn_93_95 hw))).ext E53).other W60 (Or.inr (sn_93_97 hw))).ext E63).keep Kq79 (ninS (oL PE2.lt sz_b63) nin0)).ext E80)
  have G102:=(((((Fw49.ext E53).other W60 (Or.inr (sn_95_97 hw))).ext E63).keep Kq79 (ninS (oL PE2.lt sz_b63) nin0)).ext E80)
  have G103:=(((Fw60.ext E63).keep Kq79 (ninS (oL PE2.lt sz_b63) nin0)).ext E80)
  have c104:=oT m28 m36
  have l105:b17 < b31:=oW u23 (oT c104 sg_b31)
  have l106:b31 < x31a:=by omega
  have l107:x31a < x31b:=by omega
  have l108:x31b < x31c:=by omega
  have l109:x31c < b42:=oW u46 sg_b42
  have l110:b42 < x42a:=by omega
  have l111:x42a < x42b:=by omega
  have l112:x42b < x42c:=by omega
  have l113:x42c < b53:=oW u57 sg_b53
  have l114:b53 < b63:=oW u64 sg_b63
  have l115:b63 < b80:=oW u81 sg_b80
  refine oX2 a0 [b12,b14,b17,b31,x31a,x31b,x31c,b42,x42a,x42b,x42c,b53,b63,b80] [0,k14,0,k31,kc31,0,0,k42,kc42,0,0,k53,k63,k80] [fE1_26 0 (vR 3),fE1_29 0 (vR 7),fE1_32 0 (vR 11)] [] [13,4,8,11] [13,12,3,1,4,7,8,11] 14 [oR 0,oI 1,oI 3,oR 1,oR 2,oI 0,oR 12,oI 0,oI 2,oI 2,oI 1,oU,oU] [vR 13] [(13,.boolean,2,[vI 0,vI 0]),(12,.boolean,3,[vI 1,vI 1,vI 0]),(3,(.array .int),3,[vR 4,vR 5,vR 6]),(1,.int,4,[vI 0,vI 22,vI 43,vI 64]),(4,.int,3,[vI 0,vI 0,vI 0]),(7,(.array .int),3,[vR 8,vR 9,vR 10]),(8,.int,3,[vI 0,vI 0,vI 0]),(11,.int,3,[vI 0,vI 0,vI 0])] 132 [oR 0,oI 1,oI 3,oR 1,oR 2,oI 1,oR 12,oI 3,oR 13,oI 2,oI 2,oI 0,oI 3] [vR 2,vI 1] [(13,[vI 1,vI 0]),(4,[vI 42,vI 21,vI 0]),(8,[vI 22,vI 21,vI 21]),(11,[vI 43,vI 0,vI 0])] tt hZ hown X80 N79 e80 (oA (ow92 hw) (oA (ow94 hw) (oA (ow96 hw) trivial))) trivial (oA G101 (oA G102 (oA G103 trivial))) (oA V_b80 (oA (V79_1.ext E80) (oA G85 (oA G93 (oA G95 (oA G97 (oA G99 (oA G100 trivial)))))))) (Or.inr (oA l15 (oA l74 (oA l105 (oA l106 (oA l107 (oA l108 (oA l109 (oA l110 (oA l111 (oA l112 (oA l113 (oA l114 (oA l115 trivial)))))))))))))) (oA n_b80 (oA n_x31a (oA n_x42a (oA n_b53 trivial)))) rfl rfl (by decide +kernel) 238 (by decide +kernel) fun T116 h116 _ X116 N116 e116 K116 q116 M116=>?_
  have Kq116:Keep h80 h116 [b80,x31a,x42a,b53]:=K116
  have KK116:Keep h0 h116 [b12]:=Keep.trans K80 Kq116 (allS (Or.inr sz_b80) (allS (Or.inr sz_x31a) (allS (Or.inr sz_x42a) (allS (Or.inr sz_b53) all0))))
  obtain ⟨v116_0,-,-,-,v116_4,-,v116_6,v116_7,-⟩:=M116
  have V116_0:Arv Z h116 b80 k80 .boolean 2 [vI 1,vI 0] (vI 0):=v116_0
  have V116_4:Arv Z h116 x31a kc31 .int 3 [vI 42,vI 21,vI 0] (vI 0):=v116_4
  have V116_6:Arv Z h116 x42a kc42 .int 3 [vI 22,vI 21,vI 21] (vI 0):=v116_6
  have V116_7:Arv Z h116 b53 k53 .int 3 [vI 43,vI 0,vI 0] (vI 0):=v116_7
  refine oV 132 #[oR b12,oI 1,oI 3,oR b14,oR b17,oI 1,oR b63,oI 3,oR b80,oI 2,oI 2,oI 0,oI 3] [vR b17,vI 1] ?_
  have c117:=oT c104 m47
  have c118:=oT c117 m58
  have c119:=oT c118 m65
  have q120:=oL u23 (oT c119 sg_b63)
  have q121:=oL u23 (oT c118 sg_b53)
  have q122:=oL u23 (oT c117 sg_x42a)
  have q123:=oL u23 (oT c104 sg_x31a)
  have c124:=oT c119 m82
  have q125:=oL u23 (oT c124 sg_b80)
  have G126:=(((G68.keep Kq79 (ninS q120 nin0)).ext E80).keep Kq116 (ninS q125 (ninS q123 (ninS q122 (ninS q121 nin0)))))
  have G127:=((((((G51.ext E53).wr W60).ext E63).keep Kq79).ext E80).keep Kq116)
  refine own_cI X116 hx hZ hown e116 (ow82 hw) (ow83 hw) (mvT hZ (ow84 hw)) (ow85 hw) (ow86 hw) (ow87 hw) (ow88 hw) (ow54 hw) (ow13 hw) (ow89 hw) G127 (y:=mn11) (z:=mn10) (argsL:=[]) (rest:=[vI 1]) (W:=1) hml.symm (hb hby d1_132) (lenOf pd0 rfl) rfl (by decide) (rm12a48 l Z a0 hw [] b17 h116 n0 (oT (oT (oT (oT Zs61 E63.1) Kq79.1) E80.1) Kq116.1) G126) fun _ T128 _ X128 hQ128=>?_
  obtain ⟨rfl,N128q,hh128⟩:=hQ128
  have N128:=Fr.app N116 N128q
  obtain ⟨_,X128,N128⟩:=own_hide X128 N128
  refine oV 137 #[oR b12,oI 1,oI 3,oR b14,oR b17,oI 1,oR b63,oI 3,oR b80,oI 2,oI 2,oI 0,oI 3] [vI 3,vI 1] ?_
  refine oG X128 tt 2 141 #[oR b12,oI 1,oI 3,oR b14,oR b17,oI 1,oR b63,oI 3,oR b80,oI 2,oI 2,oI 0,oI 3] [vI 3] rfl ?_
  obtain ⟨T129,h129,k129,X129,e129,E129,A129,EA129,st129⟩:=newPE (aty:=.boolean) X128 hx hZ (ow98 hw) hh128 (g:=(mkF m 141 #[oR b12,oI 1,oI 3,oR b14,oR b17,oI 1,oR b63,oI 3,oR b80,oI 2,oI 2,oI 0,oI 3] [vI 3])) rfl (hb hby d1_141) rfl (by decide) (cap:=3) (by decide) (by decide) (by decide) (by decide) (ad:="[Z") (by decide +kernel)
  obtain ⟨b129,g_b129⟩:∃ z,z = h116.size:=⟨_,rfl⟩
  have sg_b129:h116.size≤b129:=Nat.le_of_eq g_b129.symm
  rw [← g_b129] at A129 EA129 st129
  have n_b129:=oT (oT (oT (oT (oT Zs61 E63.1) Kq79.1) E80.1) Kq116.1) sg_b129
  have sz_b129:=oT KK116.1 sg_b129
  have u130:=(oW V_b80.lt Kq116.1)
  have m131:h79.size≤h116.size:=(oT (oT (Nat.le_refl _) E80.1) Kq116.1)
  have K129:Keep h0 h129 [b12]:=KK116.ext E129
  have V_b129:Arv Z h129 b129 k129 .boolean 3 [vI 0,vI 0,vI 0] (vI 0):=(Arv.new A129 (by decide)).pad (pad_rep [] (vI 0) 3)
  refine oH st129 X129 tt 3 149 #[oR b12,oI 1,oI 3,oR b14,oR b17,oI 1,oR b129,oI 3,oR b80,oI 2,oI 2,oI 0,oI 3] [vI 1,vR b17] rfl ?_
  have G132:=((((G67.keep Kq79 (ninS q120 nin0)).ext E80).keep Kq116 (ninS q125 (ninS q123 (ninS q122 (ninS q121 nin0))))).ext E129)
  have q133:=oL u32 (oT c77 sg_b63)
  have q134:=oL u32 (oT c76 sg_b53)
  have q135:=oL u32 (oT m47 sg_x42a)
  have c136:=oT c77 m82
  have q137:=oL u32 (oT c136 sg_b80)
  have G138:=((((G69.keep Kq79 (ninS q133 nin0)).ext E80).keep Kq116 (ninS q137 (ninS (oL u32 sg_x31a) (ninS q135 (ninS q134 nin0))))).ext E129)
  refine own_cI X129 hx hZ hown e129 (ow99 hw) (ow100 hw) (mvT hZ (ow101 hw)) (ow102 hw) (ow103 hw) (ow104 hw) (ow105 hw) (ow54 hw) (ow13 hw) (ow106 hw) (G127.ext E129) (y:=mn16) (z:=mn15) (argsL:=[vI 1]) (rest:=[]) (W:=0) hml.symm (hb hby d1_149) (lenOf pd5 rfl) rfl (by decide) (rm13a53 l Z a0 hw [] b17 b26a k26b b26c b26d b26e h129 n0 (oT (oT (oT (oT (oT Zs61 E63.1) Kq79.1) E80.1) Kq116.1) E129.1) (G127.ext E129) G132 (G126.ext E129) G138) fun _ T139 _ X139 hQ139=>?_
  obtain ⟨rfl,N139q,hh139⟩:=hQ139
  have N139:=Fr.app N128 N139q
  obtain ⟨_,X139,N139⟩:=own_hide X139 N139
  refine oV 154 #[oR b12,oI 1,oI 3,oR b14,oR b17,oI 1,oR b129,oI 3,oR b80,oI 2,oI 2,oI 0,oI 3] [vR b26d] ?_
  have G140:=((((((g26_9.ext E31).keep K66).keep Kq79).ext E80).keep Kq116).ext E129)
  obtain ⟨T141,X141,e141,st141⟩:=castY X139 hx hZ hown (ow45 hw) hh139 (Ins.self G140) (g:=(mkF m 154 #[oR b12,oI 1,oI 3,oR b14,oR b17,oI 1,oR b129,oI 3,oR b80,oI 2,oI 2,oI 0,oI 3] [vR b26d])) rfl rfl (hb hby d1_154)
  refine oJ 157 #[oR b12,oI 1,oI 3,oR b14,oR b17,oI 1,oR b129,oI 3,oR b80,oI 2,oI 2,oI 0,oI 3] [vR b26d] st141 ?_
  have q142:=oL u34 (oT c77 sg_b63)
  have q143:=oL u34 (oT c76 sg_b53)
  have q144:=oL u34 (oT m47 sg_x42a)
  have q145:=oL u34 (oT c136 sg_b80)
  have G146:=((((((g26_8.ext E31).keep K66 (ninS (oM PE2.lt sz_b26d) nin0)).keep Kq79 (ninS q142 nin0)).ext E80).keep Kq116 (ninS q145 (ninS (oL u34 sg_x31a) (ninS q144 (ninS q143 nin0))))).ext E129)
  have l147:b17 < b26d:=oW u23 (oT m28 sg_b26d)
  have l148:b26d < b80:=oW u34 (oT c136 sg_b80)
  have l149:b80 < b129:=oW u130 sg_b129
  refine oX2 a0 [b12,b14,b17,b26d,b80,b129] [0,0,0,k22,0,k129] [] [] [5] [3,5] 6 [oR 0,oI 1,oI 3,oR 1,oR 2,oI 1,oR 5,oI 3,oR 4,oI 2,oI 2,oI 0,oI 3] [vR 3] [(3,.int,2,[vI 0,vI 2]),(5,.boolean,3,[vI 0,vI 0,vI 0])] 197 [oR 0,oI 1,oI 3,oR 1,oR 2,oI 1,oR 5,oI 0,oI 2,oI 2,oI 2,oI 0,oI 3] [vI 2] [(5,[vI 1,vI 0,vI 1])] tt hZ hown X141 N139 e141 trivial trivial trivial (oA G146 (oA V_b129 trivial)) (Or.inr (oA l15 (oA l74 (oA l147 (oA l148 (oA l149 trivial)))))) (oA n_b129 trivial) rfl rfl (by decide +kernel) 38 (by decide +kernel) fun T150 h150 _ X150 N150 e150 K150 q150 M150=>?_
  have Kq150:Keep h129 h150 [b129]:=K150
  have KK150:Keep h0 h150 [b12]:=Keep.trans K129 Kq150 (allS (Or.inr sz_b129) all0)
  obtain ⟨-,v150_1,-⟩:=M150
  have V150_1:Arv Z h150 b129 k129 .boolean 3 [vI 1,vI 0,vI 1] (vI 0):=v150_1
  refine oV 197 #[oR b12,oI 1,oI 3,oR b14,oR b17,oI 1,oR b129,oI 0,oI 2,oI 2,oI 2,oI 0,oI 3] [vI 2] ?_
  obtain ⟨T151,h151,k151,X151,e151,E151,A151,EA151,st151⟩:=newPE (aty:=.boolean) X150 hx hZ (ow98 hw) e150 (g:=(mkF m 197 #[oR b12,oI 1,oI 3,oR b14,oR b17,oI 1,oR b129,oI 0,oI 2,oI 2,oI 2,oI 0,oI 3] [vI 2])) rfl (hb hby d1_197) rfl (by decide) (cap:=2) (by decide) (by decide) (by decide) (by decide) (ad:="[Z") (by decide +kernel)
  have Zs152:n0≤h150.size:=(oT (oT (oT (oT (oT (oT Zs61 E63.1) Kq79.1) E80.1) Kq116.1) E129.1) Kq150.1)
  obtain ⟨b151,g_b151⟩:∃ z,z = h150.size:=⟨_,rfl⟩
  have sg_b151:h150.size≤b151:=Nat.le_of_eq g_b151.symm
  rw [← g_b151] at A151 EA151 st151
  have n_b151:=oT Zs152 sg_b151
  have sz_b151:=oT KK150.1 sg_b151
  have u153:=(oW V_b129.lt Kq150.1)
  have m154:h116.size≤h150.size:=(oT (oT (Nat.le_refl _) E129.1) Kq150.1)
  have K151:Keep h0 h151 [b12]:=KK150.ext E151
  have V_b151:Arv Z h151 b151 k151 .boolean 2 [vI 0,vI 0] (vI 0):=(Arv.new A151 (by decide)).pad (pad_rep [] (vI 0) 2)
  refine oJ 199 #[oR b12,oI 1,oI 3,oR b14,oR b17,oI 1,oR b129,oI 0,oI 2,oI 2,oI 2,oI 0,oI 3] [vR b151] st151 ?_
  have q155:=oL u43 (oT m58 sg_b53)
  have c156:=oT c83 m82
  have q157:=oL u43 (oT c156 sg_b80)
  have c158:=oT c156 m131
  have q159:=oL u43 (oT c158 sg_b129)
  have G160:=((((G85.keep Kq116 (ninS q157 (ninS (Ne.symm nn_x31a_b31) (ninS (oL u43 sg_x42a) (ninS q155 nin0))))).ext E129).keep Kq150 (ninS q159 nin0)).ext E151)
  have q161:=oL u18 (oT c90 sg_b53)
  have q162:=oL u18 (oT c89 sg_x42a)
  have q163:=oL u18 (oT c88 sg_x31a)
  have c164:=oT c91 m82
  have q165:=oL u18 (oT c164 sg_b80)
  have c166:=oT c164 m131
  have q167:=oL u18 (oT c166 sg_b129)
  have G168:=((((G93.keep Kq116 (ninS q165 (ninS q163 (ninS q162 (ninS q161 nin0))))).ext E129).keep Kq150 (ninS q167 nin0)).ext E151)
  have q169:=oL u45 (oT c83 sg_b63)
  have q170:=oL u45 (oT m58 sg_b53)
  have q171:=oL u45 (oT c156 sg_b80)
  have q172:=oL u45 (oT c158 sg_b129)
  have K173:Keep _ h151 [b63,b80,x31a,x42a,b53,b129]:=(Keep.trans ((Keep.trans ((Keep.trans (Keep.refl _ _) Kq79 (allS oI0 all0)).ext E80) Kq116 (allS oI1 (allS oI2 (allS oI3 (allS oI4 all0))))).ext E129) Kq150 (allS oI5 all0)).ext E151
  have G174:=((V_x31b.keep K66 (ninS (oM PE2.lt sz_x31b) nin0)).keep K173 (ninS q169 (ninS q171 (ninS nn_x31b_x31a (ninS (oL u45 sg_x42a) (ninS q170 (ninS q172 nin0)))))))
  have c175:=oT m65 m82
  have q176:=oL u54 (oT c175 sg_b80)
  have c177:=oT c175 m131
  have q178:=oL u54 (oT c177 sg_b129)
  have G179:=((((G97.keep Kq116 (ninS q176 (ninS (oM u44 sg_b42) (ninS (Ne.symm nn_x42a_b42) (ninS (oL u54 sg_b53) nin0))))).ext E129).keep Kq150 (ninS q178 nin0)).ext E151)
  have q180:=oL u56 (oT m65 sg_b63)
  have q181:=oL u56 (oT c175 sg_b80)
  have q182:=oL u56 (oT c177 sg_b129)
  have G183:=(((((V_x42b.other W49 (oM PE2.lt sz_x42b)).ext E53).other W60 (oM PE2.lt sz_x42b)).ext E63).keep K173 (ninS q180 (ninS q181 (ninS (oM u44 sg_x42b) (ninS nn_x42b_x42a (ninS (oL u56 sg_b53) (ninS q182 nin0)))))))
  have c184:=oT m82 m131
  have q185:=oL u64 (oT c184 sg_b129)
  have G186:=((((G101.keep Kq116 (ninS (oL PE2.lt sz_b80) (ninS (oL PE2.lt sz_x31a) (ninS (oL PE2.lt sz_x42a) (ninS (oL PE2.lt sz_b53) nin0))))).ext E129).keep Kq150 (ninS (oL PE2.lt sz_b129) nin0)).ext E151)
  have G187:=((((G102.keep Kq116 (ninS (oL PE2.lt sz_b80) (ninS (oL PE2.lt sz_x31a) (ninS (oL PE2.lt sz_x42a) (ninS (oL PE2.lt sz_b53) nin0))))).ext E129).keep Kq150 (ninS (oL PE2.lt sz_b129) nin0)).ext E151)
  have G188:=((((G103.keep Kq116 (ninS (oL PE2.lt sz_b80) (ninS (oL PE2.lt sz_x31a) (ninS (oL PE2.lt sz_x42a) (ninS (oL PE2.lt sz_b53) nin0))))).ext E129).keep Kq150 (ninS (oL PE2.lt sz_b129) nin0)).ext E151)
  have l189:b53 < b129:=oW u64 (oT c184 sg_b129)
  have l190:b129 < b151:=oW u153 sg_b151
  refine oX2 a0 [b12,b14,b17,b31,x31a,x31b,x31c,b42,x42a,x42b,x42c,b53,b129,b151] [0,k14,0,k31,0,kc31,0,k42,0,kc42,0,k53,k129,k151] [fE1_26 0 (vR 3),fE1_29 0 (vR 7),fE1_32 0 (vR 11)] [] [13,5,9,11] [13,12,3,1,5,7,9,11] 14 [oR 0,oI 1,oI 3,oR 1,oR 2,oI 1,oR 12,oI 0,oI 2,oI 2,oI 2,oI 0,oI 3] [vR 13] [(13,.boolean,2,[vI 0,vI 0]),(12,.boolean,3,[vI 1,vI 0,vI 1]),(3,(.array .int),3,[vR 4,vR 5,vR 6]),(1,.int,4,[vI 0,vI 22,vI 43,vI 64]),(5,.int,3,[vI 0,vI 0,vI 0]),(7,(.array .int),3,[vR 8,vR 9,vR 10]),(9,.int,3,[vI 0,vI 0,vI 0]),(11,.int,3,[vI 43,vI 0,vI 0])] 132 [oR 0,oI 1,oI 3,oR 1,oR 2,oI 2,oR 12,oI 3,oR 13,oI 2,oI 2,oI 0,oI 3] [vR 2,vI 2] [(13,[vI 1,vI 0]),(5,[vI 42,vI 0,vI 21]),(9,[vI 22,vI 21,vI 21]),(11,[vI 43,vI 43,vI 0])] tt hZ hown X151 N150 e151 (oA (ow92 hw) (oA (ow94 hw) (oA (ow96 hw) trivial))) trivial (oA G186 (oA G187 (oA G188 trivial))) (oA V_b151 (oA (V150_1.ext E151) (oA G160 (oA G168 (oA G174 (oA G179 (oA G183 (oA (((V116_7.ext E129).keep Kq150 (ninS q185 nin0)).ext E151) trivial)))))))) (Or.inr (oA l15 (oA l74 (oA l105 (oA l106 (oA l107 (oA l108 (oA l109 (oA l110 (oA l111 (oA l112 (oA l113 (oA l189 (oA l190 trivial)))))))))))))) (oA n_b151 (oA n_x31b (oA n_x42b (oA n_b53 trivial)))) rfl rfl (by decide +kernel) 238 (by decide +kernel) fun T191 h191 _ X191 N191 e191 K191 q191 M191=>?_
  have Kq191:Keep h151 h191 [b151,x31b,x42b,b53]:=K191
  have KK191:Keep h0 h191 [b12]:=Keep.trans K151 Kq191 (allS (Or.inr sz_b151) (allS (Or.inr sz_x31b) (allS (Or.inr sz_x42b) (allS (Or.inr sz_b53) all0))))
  obtain ⟨v191_0,-,-,-,v191_4,-,v191_6,v191_7,-⟩:=M191
  have V191_0:Arv Z h191 b151 k151 .boolean 2 [vI 1,vI 0] (vI 0):=v191_0
  have V191_4:Arv Z h191 x31b kc31 .int 3 [vI 42,vI 0,vI 21] (vI 0):=v191_4
  have V191_6:Arv Z h191 x42b kc42 .int 3 [vI 22,vI 21,vI 21] (vI 0):=v191_6
  have V191_7:Arv Z h191 b53 k53 .int 3 [vI 43,vI 43,vI 0] (vI 0):=v191_7
  refine oV 132 #[oR b12,oI 1,oI 3,oR b14,oR b17,oI 2,oR b129,oI 3,oR b151,oI 2,oI 2,oI 0,oI 3] [vR b17,vI 2] ?_
  have c192:=oT c124 m131
  have q193:=oL u23 (oT c192 sg_b129)
  have q194:=oL u23 (oT c117 sg_x42b)
  have q195:=oL u23 (oT c104 sg_x31b)
  have c196:=oT c192 m154
  have q197:=oL u23 (oT c196 sg_b151)
  have G198:=((((G126.ext E129).keep Kq150 (ninS q193 nin0)).ext E151).keep Kq191 (ninS q197 (ninS q195 (ninS q194 (ninS q121 nin0)))))
  refine own_cI X191 hx hZ hown e191 (ow82 hw) (ow83 hw) (mvT hZ (ow84 hw)) (ow85 hw) (ow86 hw) (ow87 hw) (ow88 hw) (ow54 hw) (ow13 hw) (ow89 hw) ((((G127.ext E129).keep Kq150).ext E151).keep Kq191) (y:=mn11) (z:=mn10) (argsL:=[]) (rest:=[vI 2]) (W:=1) hml.symm (hb hby d1_132) (lenOf pd0 rfl) rfl (by decide) (rm12a48 l Z a0 hw [] b17 h191 n0 (oT (oT Zs152 E151.1) Kq191.1) G198) fun _ T199 _ X199 hQ199=>?_
  obtain ⟨rfl,N199q,hh199⟩:=hQ199
  have N199:=Fr.app N191 N199q
  obtain ⟨_,X199,N199⟩:=own_hide X199 N199
  refine oV 137 #[oR b12,oI 1,oI 3,oR b14,oR b17,oI 2,oR b129,oI 3,oR b151,oI 2,oI 2,oI 0,oI 3] [vI 3,vI 2] ?_
  refine oG X199 tt 2 141 #[oR b12,oI 1,oI 3,oR b14,oR b17,oI 2,oR b129,oI 3,oR b151,oI 2,oI 2,oI 0,oI 3] [vI 3] rfl ?_
  obtain ⟨T200,h200,k200,X200,e200,E200,A200,EA200,st200⟩:=newPE (aty:=.boolean) X199 hx hZ (ow98 hw) hh199 (g:=(mkF m 141 #[oR b12,oI 1,oI 3,oR b14,oR b17,oI 2,oR b129,oI 3,oR b151,oI 2,oI 2,oI 0,oI 3] [vI 3])) rfl (hb hby d1_141) rfl (by decide) (cap:=3) (by decide) (by decide) (by decide) (by decide) (ad:="[Z") (by decide +kernel)
  obtain ⟨b200,g_b200⟩:∃ z,z = h191.size:=⟨_,rfl⟩
  have sg_b200:h191.size≤b200:=Nat.le_of_eq g_b200.symm
  rw [← g_b200] at A200 EA200 st200
  have n_b200:=oT (oT (oT Zs152 E151.1) Kq191.1) sg_b200
  have sz_b200:=oT KK191.1 sg_b200
  have u201:=(oW V_b151.lt Kq191.1)
  have m202:h150.size≤h191.size:=(oT (oT (Nat.le_refl _) E151.1) Kq191.1)
  have K200:Keep h0 h200 [b12]:=KK191.ext E200
  have V_b200:Arv Z h200 b200 k200 .boolean 3 [vI 0,vI 0,vI 0] (vI 0):=(Arv.new A200 (by decide)).pad (pad_rep [] (vI 0) 3)
  refine oH st200 X200 tt 3 149 #[oR b12,oI 1,oI 3,oR b14,oR b17,oI 2,oR b200,oI 3,oR b151,oI 2,oI 2,oI 0,oI 3] [vI 2,vR b17] rfl ?_
  have G203:=(((((G127.ext E129).keep Kq150).ext E151).keep Kq191).ext E200)
  have G204:=((((G132.keep Kq150 (ninS q193 nin0)).ext E151).keep Kq191 (ninS q197 (ninS q195 (ninS q194 (ninS q121 nin0))))).ext E200)
  have c205:=oT c136 m131
  have q206:=oL u32 (oT c205 sg_b129)
  have q207:=oL u32 (oT m47 sg_x42b)
  have c208:=oT c205 m154
  have q209:=oL u32 (oT c208 sg_b151)
  have G210:=((((G138.keep Kq150 (ninS q206 nin0)).ext E151).keep Kq191 (ninS q209 (ninS (oL u32 sg_x31b) (ninS q207 (ninS q134 nin0))))).ext E200)
  refine own_cI X200 hx hZ hown e200 (ow99 hw) (ow100 hw) (mvT hZ (ow101 hw)) (ow102 hw) (ow103 hw) (ow104 hw) (ow105 hw) (ow54 hw) (ow13 hw) (ow106 hw) G203 (y:=mn16) (z:=mn15) (argsL:=[vI 2]) (rest:=[]) (W:=0) hml.symm (hb hby d1_149) (lenOf pd5 rfl) rfl (by decide) (rm13a57 l Z a0 hw [] b17 b26a k26b b26c b26d b26e h200 n0 (oT (oT (oT Zs152 E151.1) Kq191.1) E200.1) G203 G204 (G198.ext E200) G210) fun _ T211 _ X211 hQ211=>?_
  obtain ⟨rfl,N211q,hh211⟩:=hQ211
  have N211:=Fr.app N199 N211q
  obtain ⟨_,X211,N211⟩:=own_hide X211 N211
  refine oV 154 #[oR b12,oI 1,oI 3,oR b14,oR b17,oI 2,oR b200,oI 3,oR b151,oI 2,oI 2,oI 0,oI 3] [vR b26e] ?_
  have G212:=(((((g26_11.ext E31).keep K66).keep K173).keep Kq191).ext E200)
  obtain ⟨T213,X213,e213,st213⟩:=castY X211 hx hZ hown (ow45 hw) hh211 (Ins.self G212) (g:=(mkF m 154 #[oR b12,oI 1,oI 3,oR b14,oR b17,oI 2,oR b200,oI 3,oR b151,oI 2,oI 2,oI 0,oI 3] [vR b26e])) rfl rfl (hb hby d1_154)
  refine oJ 157 #[oR b12,oI 1,oI 3,oR b14,oR b17,oI 2,oR b200,oI 3,oR b151,oI 2,oI 2,oI 0,oI 3] [vR b26e] st213 ?_
  have q214:=oL u35 (oT c77 sg_b63)
  have q215:=oL u35 (oT c76 sg_b53)
  have q216:=oL u35 (oT m47 sg_x42a)
  have q217:=oL u35 (oT c136 sg_b80)
  have q218:=oL u35 (oT c205 sg_b129)
  have q219:=oL u35 (oT m47 sg_x42b)
  have q220:=oL u35 (oT c208 sg_b151)
  have G221:=(((((g26_10.ext E31).keep K66 (ninS (oM PE2.lt sz_b26e) nin0)).keep K173 (ninS q214 (ninS q217 (ninS (oL u35 sg_x31a) (ninS q216 (ninS q215 (ninS q218 nin0))))))).keep Kq191 (ninS q220 (ninS (oL u35 sg_x31b) (ninS q219 (ninS q215 nin0))))).ext E200)
  have l222:b17 < b26e:=oW u23 (oT m28 sg_b26e)
  have l223:b26e < b151:=oW u35 (oT c208 sg_b151)
  have l224:b151 < b200:=oW u201 sg_b200
  refine oX2 a0 [b12,b14,b17,b26e,b151,b200] [0,0,0,k22,0,k200] [] [] [5] [3,5] 6 [oR 0,oI 1,oI 3,oR 1,oR 2,oI 2,oR 5,oI 3,oR 4,oI 2,oI 2,oI 0,oI 3] [vR 3] [(3,.int,2,[vI 1,vI 2]),(5,.boolean,3,[vI 0,vI 0,vI 0])] 197 [oR 0,oI 1,oI 3,oR 1,oR 2,oI 2,oR 5,oI 0,oI 2,oI 2,oI 2,oI 0,oI 3] [vI 2] [(5,[vI 0,vI 1,vI 1])] tt hZ hown X213 N211 e213 trivial trivial trivial (oA G221 (oA V_b200 trivial)) (Or.inr (oA l15 (oA l74 (oA l222 (oA l223 (oA l224 trivial)))))) (oA n_b200 trivial) rfl rfl (by decide +kernel) 38 (by decide +kernel) fun T225 h225 _ X225 N225 e225 K225 q225 M225=>?_
  have Kq225:Keep h200 h225 [b200]:=K225
  have KK225:Keep h0 h225 [b12]:=Keep.trans K200 Kq225 (allS (Or.inr sz_b200) all0)
  obtain ⟨-,v225_1,-⟩:=M225
  have V225_1:Arv Z h225 b200 k200 .boolean 3 [vI 0,vI 1,vI 1] (vI 0):=v225_1
  refine oV 197 #[oR b12,oI 1,oI 3,oR b14,oR b17,oI 2,oR b200,oI 0,oI 2,oI 2,oI 2,oI 0,oI 3] [vI 2] ?_
  obtain ⟨T226,h226,k226,X226,e226,E226,A226,EA226,st226⟩:=newPE (aty:=.boolean) X225 hx hZ (ow98 hw) e225 (g:=(mkF m 197 #[oR b12,oI 1,oI 3,oR b14,oR b17,oI 2,oR b200,oI 0,oI 2,oI 2,oI 2,oI 0,oI 3] [vI 2])) rfl (hb hby d1_197) rfl (by decide) (cap:=2) (by decide) (by decide) (by decide) (by decide) (ad:="[Z") (by decide +kernel)
  obtain ⟨b226,g_b226⟩:∃ z,z = h225.size:=⟨_,rfl⟩
  have sg_b226:h225.size≤b226:=Nat.le_of_eq g_b226.symm
  rw [← g_b226] at A226 EA226 st226
  have n_b226:=oT (oT (oT (oT (oT Zs152 E151.1) Kq191.1) E200.1) Kq225.1) sg_b226
  have sz_b226:=oT KK225.1 sg_b226
  have u227:=(oW V_b200.lt Kq225.1)
  have m228:h191.size≤h225.size:=(oT (oT (Nat.le_refl _) E200.1) Kq225.1)
  have K226:Keep h0 h226 [b12]:=KK225.ext E226
  have V_b226:Arv Z h226 b226 k226 .boolean 2 [vI 0,vI 0] (vI 0):=(Arv.new A226 (by decide)).pad (pad_rep [] (vI 0) 2)
  refine oJ 199 #[oR b12,oI 1,oI 3,oR b14,oR b17,oI 2,oR b200,oI 0,oI 2,oI 2,oI 2,oI 0,oI 3] [vR b226] st226 ?_
  have c229:=oT c158 m154
  have q230:=oL u43 (oT c229 sg_b151)
  have c231:=oT c229 m202
  have q232:=oL u43 (oT c231 sg_b200)
  have G233:=((((G160.keep Kq191 (ninS q230 (ninS (Ne.symm nn_x31b_b31) (ninS (oL u43 sg_x42b) (ninS q155 nin0))))).ext E200).keep Kq225 (ninS q232 nin0)).ext E226)
  have q234:=oL u18 (oT c89 sg_x42b)
  have q235:=oL u18 (oT c88 sg_x31b)
  have c236:=oT c166 m154
  have q237:=oL u18 (oT c236 sg_b151)
  have c238:=oT c236 m202
  have q239:=oL u18 (oT c238 sg_b200)
  have G240:=((((G168.keep Kq191 (ninS q237 (ninS q235 (ninS q234 (ninS q161 nin0))))).ext E200).keep Kq225 (ninS q239 nin0)).ext E226)
  have q241:=oL u46 (oT c83 sg_b63)
  have q242:=oL u46 (oT m58 sg_b53)
  have q243:=oL u46 (oT c156 sg_b80)
  have q244:=oL u46 (oT c158 sg_b129)
  have q245:=oL u46 (oT c229 sg_b151)
  have q246:=oL u46 (oT c231 sg_b200)
  have G247:=((((((V_x31c.keep K66 (ninS (oM PE2.lt sz_x31c) nin0)).keep K173 (ninS q241 (ninS q243 (ninS nn_x31c_x31a (ninS (oL u46 sg_x42a) (ninS q242 (ninS q244 nin0))))))).keep Kq191 (ninS q245 (ninS nn_x31c_x31b (ninS (oL u46 sg_x42b) (ninS q242 nin0))))).ext E200).keep Kq225 (ninS q246 nin0)).ext E226)
  have c248:=oT c177 m154
  have q249:=oL u54 (oT c248 sg_b151)
  have c250:=oT c248 m202
  have q251:=oL u54 (oT c250 sg_b200)
  have G252:=((((G179.keep Kq191 (ninS q249 (ninS (oM u45 sg_b42) (ninS (Ne.symm nn_x42b_b42) (ninS (oL u54 sg_b53) nin0))))).ext E200).keep Kq225 (ninS q251 nin0)).ext E226)
  have q253:=oL u57 (oT m65 sg_b63)
  have q254:=oL u57 (oT c175 sg_b80)
  have q255:=oL u57 (oT c177 sg_b129)
  have q256:=oL u57 (oT c248 sg_b151)
  have q257:=oL u57 (oT c250 sg_b200)
  have G258:=(((((((((V_x42c.other W49 (oM PE2.lt sz_x42c)).ext E53).other W60 (oM PE2.lt sz_x42c)).ext E63).keep K173 (ninS q253 (ninS q254 (ninS (oM u44 sg_x42c) (ninS nn_x42c_x42a (ninS (oL u57 sg_b53) (ninS q255 nin0))))))).keep Kq191 (ninS q256 (ninS (oM u45 sg_x42c) (ninS nn_x42c_x42b (ninS (oL u57 sg_b53) nin0))))).ext E200).keep Kq225 (ninS q257 nin0)).ext E226)
  have c259:=oT c184 m154
  have c260:=oT c259 m202
  have q261:=oL u64 (oT c260 sg_b200)
  have G262:=((((G186.keep Kq191 (ninS (oL PE2.lt sz_b151) (ninS (oL PE2.lt sz_x31b) (ninS (oL PE2.lt sz_x42b) (ninS (oL PE2.lt sz_b53) nin0))))).ext E200).keep Kq225 (ninS (oL PE2.lt sz_b200) nin0)).ext E226)
  have G263:=((((G187.keep Kq191 (ninS (oL PE2.lt sz_b151) (ninS (oL PE2.lt sz_x31b) (ninS (oL PE2.lt sz_x42b) (ninS (oL PE2.lt sz_b53) nin0))))).ext E200).keep Kq225 (ninS (oL PE2.lt sz_b200) nin0)).ext E226)
  have G264:=((((G188.keep Kq191 (ninS (oL PE2.lt sz_b151) (ninS (oL PE2.lt sz_x31b) (ninS (oL PE2.lt sz_x42b) (ninS (oL PE2.lt sz_b53) nin0))))).ext E200).keep Kq225 (ninS (oL PE2.lt sz_b200) nin0)).ext E226)
  have l265:b53 < b200:=oW u64 (oT c260 sg_b200)
  have l266:b200 < b226:=oW u227 sg_b226
  refine oX2 a0 [b12,b14,b17,b31,x31a,x31b,x31c,b42,x42a,x42b,x42c,b53,b200,b226] [0,k14,0,k31,0,0,kc31,k42,0,0,kc42,k53,k200,k226] [fE1_26 0 (vR 3),fE1_29 0 (vR 7),fE1_32 0 (vR 11)] [] [13,6,10,11] [13,12,3,1,6,7,10,11] 14 [oR 0,oI 1,oI 3,oR 1,oR 2,oI 2,oR 12,oI 0,oI 2,oI 2,oI 2,oI 0,oI 3] [vR 13] [(13,.boolean,2,[vI 0,vI 0]),(12,.boolean,3,[vI 0,vI 1,vI 1]),(3,(.array .int),3,[vR 4,vR 5,vR 6]),(1,.int,4,[vI 0,vI 22,vI 43,vI 64]),(6,.int,3,[vI 0,vI 0,vI 0]),(7,(.array .int),3,[vR 8,vR 9,vR 10]),(10,.int,3,[vI 0,vI 0,vI 0]),(11,.int,3,[vI 43,vI 43,vI 0])] 132 [oR 0,oI 1,oI 3,oR 1,oR 2,oI 3,oR 12,oI 3,oR 13,oI 2,oI 2,oI 0,oI 3] [vR 2,vI 3] [(13,[vI 1,vI 0]),(6,[vI 21,vI 0,vI 42]),(10,[vI 21,vI 21,vI 22]),(11,[vI 43,vI 43,vI 42])] tt hZ hown X226 N225 e226 (oA (ow92 hw) (oA (ow94 hw) (oA (ow96 hw) trivial))) trivial (oA G262 (oA G263 (oA G264 trivial))) (oA V_b226 (oA (V225_1.ext E226) (oA G233 (oA G240 (oA G247 (oA G252 (oA G258 (oA (((V191_7.ext E200).keep Kq225 (ninS q261 nin0)).ext E226) trivial)))))))) (Or.inr (oA l15 (oA l74 (oA l105 (oA l106 (oA l107 (oA l108 (oA l109 (oA l110 (oA l111 (oA l112 (oA l113 (oA l265 (oA l266 trivial)))))))))))))) (oA n_b226 (oA n_x31c (oA n_x42c (oA n_b53 trivial)))) rfl rfl (by decide +kernel) 238 (by decide +kernel) fun T267 h267 _ X267 N267 e267 K267 q267 M267=>?_
  have Kq267:Keep h226 h267 [b226,x31c,x42c,b53]:=K267
  have KK267:Keep h0 h267 [b12]:=Keep.trans K226 Kq267 (allS (Or.inr sz_b226) (allS (Or.inr sz_x31c) (allS (Or.inr sz_x42c) (allS (Or.inr sz_b53) all0))))
  obtain ⟨v267_0,-,-,-,v267_4,-,v267_6,v267_7,-⟩:=M267
  have V267_0:Arv Z h267 b226 k226 .boolean 2 [vI 1,vI 0] (vI 0):=v267_0
  have V267_4:Arv Z h267 x31c kc31 .int 3 [vI 21,vI 0,vI 42] (vI 0):=v267_4
  have V267_6:Arv Z h267 x42c kc42 .int 3 [vI 21,vI 21,vI 22] (vI 0):=v267_6
  have V267_7:Arv Z h267 b53 k53 .int 3 [vI 43,vI 43,vI 42] (vI 0):=v267_7
  refine oV 132 #[oR b12,oI 1,oI 3,oR b14,oR b17,oI 3,oR b200,oI 3,oR b226,oI 2,oI 2,oI 0,oI 3] [vR b17,vI 3] ?_
  have c268:=oT c196 m202
  have q269:=oL u23 (oT c268 sg_b200)
  have q270:=oL u23 (oT c117 sg_x42c)
  have q271:=oL u23 (oT c104 sg_x31c)
  have c272:=oT c268 m228
  have q273:=oL u23 (oT c272 sg_b226)
  have G274:=((((G198.ext E200).keep Kq225 (ninS q269 nin0)).ext E226).keep Kq267 (ninS q273 (ninS q271 (ninS q270 (ninS q121 nin0)))))
  have Zs275:n0≤h267.size:=(oT (oT (oT (oT (oT (oT Zs152 E151.1) Kq191.1) E200.1) Kq225.1) E226.1) Kq267.1)
  refine own_cI X267 hx hZ hown e267 (ow82 hw) (ow83 hw) (mvT hZ (ow84 hw)) (ow85 hw) (ow86 hw) (ow87 hw) (ow88 hw) (ow54 hw) (ow13 hw) (ow89 hw) (((G203.keep Kq225).ext E226).keep Kq267) (y:=mn11) (z:=mn10) (argsL:=[]) (rest:=[vI 3]) (W:=1) hml.symm (hb hby d1_132) (lenOf pd0 rfl) rfl (by decide) (rm12a48 l Z a0 hw [] b17 h267 n0 Zs275 G274) fun _ T276 _ X276 hQ276=>?_
  obtain ⟨rfl,N276q,hh276⟩:=hQ276
  have N276:=Fr.app N267 N276q
  obtain ⟨_,X276,N276⟩:=own_hide X276 N276
  refine oV 137 #[oR b12,oI 1,oI 3,oR b14,oR b17,oI 3,oR b200,oI 3,oR b226,oI 2,oI 2,oI 0,oI 3] [vI 3,vI 3] ?_
  refine oG X276 tt 3 343 #[oR b12,oI 1,oI 3,oR b14,oR b17,oI 3,oR b200,oI 3,oR b226,oI 2,oI 2,oI 0,oI 3] [vR b17,vR b12] rfl ?_
  refine own_cI X276 hx hZ hown hh276 (ow82 hw) (ow83 hw) (mvT hZ (ow84 hw)) (ow85 hw) (ow86 hw) (ow87 hw) (ow88 hw) (ow54 hw) (ow13 hw) (ow89 hw) (((G203.keep Kq225).ext E226).keep Kq267) (y:=mn11) (z:=mn10) (argsL:=[]) (rest:=[vR b12]) (W:=1) hml.symm (hb hby d1_343) (lenOf pd0 rfl) rfl (by decide) (rm12a48 l Z a0 hw [] b17 h267 n0 Zs275 G274) fun _ T277 _ X277 hQ277=>?_
  obtain ⟨rfl,N277q,hh277⟩:=hQ277
  have N277:=Fr.app N276 N277q
  obtain ⟨_,X277,N277⟩:=own_hide X277 N277
  refine oV 348 #[oR b12,oI 1,oI 3,oR b14,oR b17,oI 3,oR b200,oI 3,oR b226,oI 2,oI 2,oI 0,oI 3] [vI 3,vR b12] ?_
  obtain ⟨T278,h278,k278,X278,e278,E278,A278,EA278,O278,st278⟩:=newRA X277 hx hZ (C:="[J") (ty:=.long) hown (by decide +kernel) (ow120 hw) (ow121 hw) hh277 (g:=(mkF m 348 #[oR b12,oI 1,oI 3,oR b14,oR b17,oI 3,oR b200,oI 3,oR b226,oI 2,oI 2,oI 0,oI 3] [vI 3,vR b12])) rfl (hb hby d1_348) rfl (by decide) (cap:=3) (by decide) (by decide) (by decide) (by decide) (ad:="[[J") (by decide +kernel)
  obtain ⟨b278,g_b278⟩:∃ z,z = h267.size:=⟨_,rfl⟩
  have sg_b278:h267.size≤b278:=Nat.le_of_eq g_b278.symm
  rw [← g_b278] at A278 EA278 st278
  have n_b278:=oT Zs275 sg_b278
  have sz_b278:=oT KK267.1 sg_b278
  have u279:=(oW V_b226.lt Kq267.1)
  have m280:h225.size≤h267.size:=(oT (oT (Nat.le_refl _) E226.1) Kq267.1)
  have K278:Keep h0 h278 [b12]:=KK267.ext E278
  have V_b278:Arv Z h278 b278 k278 (.array .long) 3 [.null,.null,.null] .null:=(Arv.new A278 (by decide)).pad (pad_rep [] .null 3)
  refine oJ 351 #[oR b12,oI 1,oI 3,oR b14,oR b17,oI 3,oR b200,oI 3,oR b226,oI 2,oI 2,oI 0,oI 3] [vR b278,vR b12] st278 ?_
  have K281:Keep _ h278 [b151,x31b,x42b,b53,b200,b226,x31c,x42c]:=(Keep.trans ((Keep.trans ((Keep.trans (Keep.refl _ _) Kq191 (allS oI0 (allS oI1 (allS oI2 (allS oI3 all0))))).ext E200) Kq225 (allS oI4 all0)).ext E226) Kq267 (allS oI5 (allS oI6 (allS (Or.inl (List.mem_of_getElem? (i:=7) rfl)) (allS oI3 all0))))).ext E278
  have G282:=(((((((((PF6.keep K38 (ninS (oL PE2.lt sz_b14) (ninS (oL PE2.lt sz_b17) (ninS (oL PE2.lt sz_b22) nin0)))).other W40 (Or.inr (sn_123_93 hw))).ext E42).other W49 (Or.inr (sn_123_95 hw))).ext E53).other W60 (Or.inr (sn_123_97 hw))).ext E63).keep K173 (ninS (oL PE2.lt sz_b63) (ninS (oL PE2.lt sz_b80) (ninS (oL PE2.lt sz_x31a) (ninS (oL PE2.lt sz_x42a) (ninS (oL PE2.lt sz_b53) (ninS (oL PE2.lt sz_b129) nin0))))))).keep K281 (ninS (oL PE2.lt sz_b151) (ninS (oL PE2.lt sz_x31b) (ninS (oL PE2.lt sz_x42b) (ninS (oL PE2.lt sz_b53) (ninS (oL PE2.lt sz_b200) (ninS (oL PE2.lt sz_b226) (ninS (oL PE2.lt sz_x31c) (ninS (oL PE2.lt sz_x42c) nin0)))))))))
  obtain ⟨T283,h283,X283,e283,W283,st283⟩:=putF X278 hx hZ hown (host:="") (Or.inl (ow122 hw)) Via.refl e278 G282 (((G37.keep K66).keep K173).keep K281) (Or.inr ⟨(ow123 hw),rfl,hnm⟩) (ow2 hw) (ty:=(.array (.array .long))) (by decide) rfl rfl (g:=(mkF m 351 #[oR b12,oI 1,oI 3,oR b14,oR b17,oI 3,oR b200,oI 3,oR b226,oI 2,oI 2,oI 0,oI 3] [vR b278,vR b12])) rfl rfl (hb hby d1_351)
  have Fw283:=Fld.same W283 G282
  have K283:Keep h0 h283 [b12]:=K278.wr W283 oI0
  have N283:=Fr.snoc X283 N277 n_b12
  refine oH st283 X283 tt 4 361 #[oR b12,oI 1,oI 3,oR b14,oR b17,oI 0,oR b200,oI 3,oR b226,oI 2,oI 2,oI 0,oI 3] [vR b17,vI 0] rfl ?_
  have G284:=(((((G203.keep Kq225).ext E226).keep Kq267).ext E278).wr W283)
  refine own_cI X283 hx hZ hown e283 (ow82 hw) (ow83 hw) (mvT hZ (ow84 hw)) (ow85 hw) (ow86 hw) (ow87 hw) (ow88 hw) (ow54 hw) (ow13 hw) (ow89 hw) G284 (y:=mn11) (z:=mn10) (argsL:=[]) (rest:=[vI 0]) (W:=1) hml.symm (hb hby d1_361) (lenOf pd0 rfl) rfl (by decide) (rm12a48 l Z a0 hw [] b17 h283 n0 (oT (oT Zs275 E278.1) (Keep.of_wr W283).1) ((G274.ext E278).other W283 (Or.inl (oM PE2.lt sz_b17)))) fun _ T285 _ X285 hQ285=>?_
  obtain ⟨rfl,N285q,hh285⟩:=hQ285
  have N285:=Fr.app N283 N285q
  obtain ⟨_,X285,N285⟩:=own_hide X285 N285
  refine oV 366 #[oR b12,oI 1,oI 3,oR b14,oR b17,oI 0,oR b200,oI 3,oR b226,oI 2,oI 2,oI 0,oI 3] [vI 3,vI 0] ?_
  refine oX2 a0 [b12,b14,b17,b200,b226,b278] [0,0,0,0,0,0] [fE1_43 0 (vR 5)] [] [] [] 6 [oR 0,oI 1,oI 3,oR 1,oR 2,oI 0,oR 3,oI 3,oR 4,oI 2,oI 2,oI 0,oI 3] [vI 3,vI 0] [] 377 [oR 0,oI 1,oI 3,oR 1,oR 2,oI 0,oR 3,oI 3,oR 4,oI 2,oI 2,oI 0,oI 3] [vI 0,vI 0,vR 5] [] tt hZ hown X285 N285 hh285 (oA (ow122 hw) trivial) trivial (oA Fw283 trivial) trivial (Or.inl rfl) trivial rfl rfl (by decide +kernel) 5 (by decide +kernel) fun T286 h286 _ X286 N286 e286 K286 q286 M286=>?_
  have e286:=e286.trans (q286 rfl)
  refine oV 377 #[oR b12,oI 1,oI 3,oR b14,oR b17,oI 0,oR b200,oI 3,oR b226,oI 2,oI 2,oI 0,oI 3] [vI 0,vI 0,vR b278] ?_
  obtain ⟨T287,h287,k287,X287,e287,E287,A287,EA287,st287⟩:=newPE (aty:=.long) X286 hx hZ (ow124 hw) e286 (g:=(mkF m 377 #[oR b12,oI 1,oI 3,oR b14,oR b17,oI 0,oR b200,oI 3,oR b226,oI 2,oI 2,oI 0,oI 3] [vI 0,vI 0,vR b278])) rfl (hb hby d1_377) rfl (by decide) (cap:=0) (by decide) (by decide) (by decide) (by decide) (ad:="[J") (by decide +kernel)
  obtain ⟨b287,g_b287⟩:∃ z,z = h283.size:=⟨_,rfl⟩
  have sg_b287:h283.size≤b287:=Nat.le_of_eq g_b287.symm
  rw [← g_b287] at A287 EA287 st287
  have n_b287:=oT (oT (oT Zs275 E278.1) (Keep.of_wr W283).1) sg_b287
  have sz_b287:=oT K283.1 sg_b287
  have u288:=(oW V_b278.lt (Keep.of_wr W283).1)
  have m289:h267.size≤h283.size:=(oT (oT (Nat.le_refl _) E278.1) (Keep.of_wr W283).1)
  have K287:Keep h0 h287 [b12]:=K283.ext E287
  have V_b287:Arv Z h287 b287 k287 .long 0 [] (.long (0:Int64)):=Arv.new A287 (by decide)
  refine oJ 379 #[oR b12,oI 1,oI 3,oR b14,oR b17,oI 0,oR b200,oI 3,oR b226,oI 2,oI 2,oI 0,oI 3] [vR b287,vI 0,vR b278] st287 ?_
  obtain ⟨T290,h290,X290,e290,W290,V290,st290⟩:=own_stR X287 hx hZ e287 ((V_b278.other W283 (oM PE2.lt sz_b278)).ext E287) (j:=(0:Int32)) ⟨by decide,by decide⟩ rfl rfl (fun cl Ar q=>Sto.ofVA Ar q O278 (Ins.self EA287)) 0 rfl (Nat.le_of_ble_eq_true rfl) (g:=(mkF m 379 #[oR b12,oI 1,oI 3,oR b14,oR b17,oI 0,oR b200,oI 3,oR b226,oI 2,oI 2,oI 0,oI 3] [vR b287,vI 0,vR b278])) rfl rfl (hb hby d1_379)
  have K290:Keep h0 h290 [b12]:=K287.wr W290 (Or.inr sz_b278)
  have V290s:Arv Z h290 b278 k278 (.array .long) 3 [vR b287,.null,.null] .null:=V290
  have N290:=Fr.snoc X290 N286 n_b278
  refine oH st290 X290 tt 9 361 #[oR b12,oI 1,oI 3,oR b14,oR b17,oI 1,oI 0,oI 3,oR b226,oI 2,oI 2,oI 0,oI 3] [vR b17,vI 1] rfl ?_
  have c291:=oT c272 m280
  have q292:=oL u23 (oT c291 sg_b278)
  have G293:=((((G274.ext E278).other W283 (Or.inl (oM PE2.lt sz_b17))).ext E287).other W290 (Or.inl q292))
  refine own_cI X290 hx hZ hown e290 (ow82 hw) (ow83 hw) (mvT hZ (ow84 hw)) (ow85 hw) (ow86 hw) (ow87 hw) (ow88 hw) (ow54 hw) (ow13 hw) (ow89 hw) ((G284.ext E287).wr W290) (y:=mn11) (z:=mn10) (argsL:=[]) (rest:=[vI 1]) (W:=1) hml.symm (hb hby d1_361) (lenOf pd0 rfl) rfl (by decide) (rm12a48 l Z a0 hw [] b17 h290 n0 (oT (oT (oT (oT Zs275 E278.1) (Keep.of_wr W283).1) E287.1) (Keep.of_wr W290).1) G293) fun _ T294 _ X294 hQ294=>?_
  obtain ⟨rfl,N294q,hh294⟩:=hQ294
  have N294:=Fr.app N290 N294q
  obtain ⟨_,X294,N294⟩:=own_hide X294 N294
  refine oV 366 #[oR b12,oI 1,oI 3,oR b14,oR b17,oI 1,oI 0,oI 3,oR b226,oI 2,oI 2,oI 0,oI 3] [vI 3,vI 1] ?_
  refine oX2 a0 [b12,b14,b17,b226,b278] [0,0,0,0,0] [fE1_43 0 (vR 4)] [] [] [] 5 [oR 0,oI 1,oI 3,oR 1,oR 2,oI 1,oI 0,oI 3,oR 3,oI 2,oI 2,oI 0,oI 3] [vI 3,vI 1] [] 377 [oR 0,oI 1,oI 3,oR 1,oR 2,oI 1,oI 0,oI 3,oR 3,oI 2,oI 2,oI 0,oI 3] [vI 1,vI 1,vR 4] [] tt hZ hown X294 N294 hh294 (oA (ow122 hw) trivial) trivial (oA ((Fw283.ext E287).other W290 (Or.inl (oL PE2.lt sz_b278))) trivial) trivial (Or.inl rfl) trivial rfl rfl (by decide +kernel) 5 (by decide +kernel) fun T295 h295 _ X295 N295 e295 K295 q295 M295=>?_
  have e295:=e295.trans (q295 rfl)
  refine oV 377 #[oR b12,oI 1,oI 3,oR b14,oR b17,oI 1,oI 0,oI 3,oR b226,oI 2,oI 2,oI 0,oI 3] [vI 1,vI 1,vR b278] ?_
  obtain ⟨T296,h296,k296,X296,e296,E296,A296,EA296,st296⟩:=newPE (aty:=.long) X295 hx hZ (ow124 hw) e295 (g:=(mkF m 377 #[oR b12,oI 1,oI 3,oR b14,oR b17,oI 1,oI 0,oI 3,oR b226,oI 2,oI 2,oI 0,oI 3] [vI 1,vI 1,vR b278])) rfl (hb hby d1_377) rfl (by decide) (cap:=1) (by decide) (by decide) (by decide) (by decide) (ad:="[J") (by decide +kernel)
  obtain ⟨b296,g_b296⟩:∃ z,z = h290.size:=⟨_,rfl⟩
  have sg_b296:h290.size≤b296:=Nat.le_of_eq g_b296.symm
  rw [← g_b296] at A296 EA296 st296
  have n_b296:=oT (oT (oT (oT (oT Zs275 E278.1) (Keep.of_wr W283).1) E287.1) (Keep.of_wr W290).1) sg_b296
  have sz_b296:=oT K290.1 sg_b296
  have u297:=(oW V_b287.lt (Keep.of_wr W290).1)
  have m298:h283.size≤h290.size:=(oT (oT (Nat.le_refl _) E287.1) (Keep.of_wr W290).1)
  have K296:Keep h0 h296 [b12]:=K290.ext E296
  have V_b296:Arv Z h296 b296 k296 .long 1 [(.long (0:Int64))] (.long (0:Int64)):=(Arv.new A296 (by decide)).pad (pad_rep [] (.long (0:Int64)) 1)
  refine oJ 379 #[oR b12,oI 1,oI 3,oR b14,oR b17,oI 1,oI 0,oI 3,oR b226,oI 2,oI 2,oI 0,oI 3] [vR b296,vI 1,vR b278] st296 ?_
  obtain ⟨T299,h299,X299,e299,W299,V299,st299⟩:=own_stR X296 hx hZ e296 (V290s.ext E296) (j:=(1:Int32)) ⟨by decide,by decide⟩ rfl rfl (fun cl Ar q=>Sto.ofVA Ar q O278 (Ins.self EA296)) 1 rfl (Nat.le_of_ble_eq_true rfl) (g:=(mkF m 379 #[oR b12,oI 1,oI 3,oR b14,oR b17,oI 1,oI 0,oI 3,oR b226,oI 2,oI 2,oI 0,oI 3] [vR b296,vI 1,vR b278])) rfl rfl (hb hby d1_379)
  have K299:Keep h0 h299 [b12]:=K296.wr W299 (Or.inr sz_b278)
  have V299s:Arv Z h299 b278 k278 (.array .long) 3 [vR b287,vR b296,.null] .null:=V299
  have N299:=Fr.snoc X299 N295 n_b278
  refine oJ 380 #[oR b12,oI 1,oI 3,oR b14,oR b17,oI 1,oI 0,oI 3,oR b226,oI 2,oI 2,oI 0,oI 3] [] st299 ?_
  have G300:=((((Fw283.ext E287).other W290 (Or.inl (oL PE2.lt sz_b278))).ext E296).other W299 (Or.inl (oL PE2.lt sz_b278)))
  refine oX2 a0 [b12,b14,b17,b226,b278,b287,b296] [0,0,0,0,k278,0,0] [fE1_43 0 (vR 4)] [] [] [4] 7 [oR 0,oI 1,oI 3,oR 1,oR 2,oI 1,oI 0,oI 3,oR 3,oI 2,oI 2,oI 0,oI 3] [] [(4,(.array .long),3,[vR 5,vR 6,.null])] 405 [oR 0,oI 1,oI 3,oR 1,oR 2,oI 1,oI 0,oI 3,oR 3,oI 2,oI 2,oI 0,oI 3] [vI 0,vR 0,vI 1,vR 0,vI 0,vR 6] [] tt hZ hown X299 N299 e299 (oA (ow122 hw) trivial) trivial (oA G300 trivial) (oA V299s trivial) (Or.inl rfl) trivial rfl rfl (by decide +kernel) 14 (by decide +kernel) fun T301 h301 _ X301 N301 e301 K301 q301 M301=>?_
  have e301:=e301.trans (q301 rfl)
  refine oV 405 #[oR b12,oI 1,oI 3,oR b14,oR b17,oI 1,oI 0,oI 3,oR b226,oI 2,oI 2,oI 0,oI 3] [vI 0,vR b12,vI 1,vR b12,vI 0,vR b296] ?_
  have G302:=(((((((G262.keep Kq267 (ninS (oL PE2.lt sz_b226) (ninS (oL PE2.lt sz_x31c) (ninS (oL PE2.lt sz_x42c) (ninS (oL PE2.lt sz_b53) nin0))))).ext E278).other W283 (Or.inr (sn_93_123 hw))).ext E287).other W290 (Or.inl (oL PE2.lt sz_b278))).ext E296).other W299 (Or.inl (oL PE2.lt sz_b278)))
  have G303:=(((((((G263.keep Kq267 (ninS (oL PE2.lt sz_b226) (ninS (oL PE2.lt sz_x31c) (ninS (oL PE2.lt sz_x42c) (ninS (oL PE2.lt sz_b53) nin0))))).ext E278).other W283 (Or.inr (sn_95_123 hw))).ext E287).other W290 (Or.inl (oL PE2.lt sz_b278))).ext E296).other W299 (Or.inl (oL PE2.lt sz_b278)))
  have G304:=(((((((G264.keep Kq267 (ninS (oL PE2.lt sz_b226) (ninS (oL PE2.lt sz_x31c) (ninS (oL PE2.lt sz_x42c) (ninS (oL PE2.lt sz_b53) nin0))))).ext E278).other W283 (Or.inr (sn_97_123 hw))).ext E287).other W290 (Or.inl (oL PE2.lt sz_b278))).ext E296).other W299 (Or.inl (oL PE2.lt sz_b278)))
  have c305:=oT c231 m228
  have q306:=oL u43 (oT c305 sg_b226)
  have c307:=oT c305 m280
  have q308:=oL u43 (oT c307 sg_b278)
  have G309:=(((((((G233.keep Kq267 (ninS q306 (ninS (Ne.symm nn_x31c_b31) (ninS (oL u43 sg_x42c) (ninS q155 nin0))))).ext E278).other W283 (oM PE2.lt sz_b31)).ext E287).other W290 q308).ext E296).other W299 q308)
  have q310:=oL u44 (oT c158 sg_b129)
  have q311:=oL u44 (oT m58 sg_b53)
  have q312:=oL u44 (oT c229 sg_b151)
  have q313:=oL u44 (oT c231 sg_b200)
  have q314:=oL u44 (oT c305 sg_b226)
  have q315:=oL u44 (oT c307 sg_b278)
  have G316:=(((((((((V116_4.ext E129).keep Kq150 (ninS q310 nin0)).ext E151).keep K281 (ninS q312 (ninS (Ne.symm nn_x31b_x31a) (ninS (oL u44 sg_x42b) (ninS q311 (ninS q313 (ninS q314 (ninS (Ne.symm nn_x31c_x31a) (ninS (oL u44 sg_x42c) nin0))))))))).other W283 (oM PE2.lt sz_x31a)).ext E287).other W290 q315).ext E296).other W299 q315)
  have c317:=oT c250 m228
  have q318:=oL u54 (oT c317 sg_b226)
  have c319:=oT c317 m280
  have q320:=oL u54 (oT c319 sg_b278)
  have G321:=(((((((G252.keep Kq267 (ninS q318 (ninS (oM u46 sg_b42) (ninS (Ne.symm nn_x42c_b42) (ninS (oL u54 sg_b53) nin0))))).ext E278).other W283 (oM PE2.lt sz_b42)).ext E287).other W290 q320).ext E296).other W299 q320)
  have q322:=oL u55 (oT c177 sg_b129)
  have q323:=oL u55 (oT c248 sg_b151)
  have q324:=oL u55 (oT c250 sg_b200)
  have q325:=oL u55 (oT c317 sg_b226)
  have q326:=oL u55 (oT c319 sg_b278)
  have G327:=(((((((((V116_6.ext E129).keep Kq150 (ninS q322 nin0)).ext E151).keep K281 (ninS q323 (ninS (oM u45 sg_x42a) (ninS (Ne.symm nn_x42b_x42a) (ninS (oL u55 sg_b53) (ninS q324 (ninS q325 (ninS (oM u46 sg_x42a) (ninS (Ne.symm nn_x42c_x42a) nin0))))))))).other W283 (oM PE2.lt sz_x42a)).ext E287).other W290 q326).ext E296).other W299 q326)
  have c328:=oT c260 m228
  have c329:=oT c328 m280
  have q330:=oL u64 (oT c329 sg_b278)
  have G331:=((((((V267_7.ext E278).other W283 (oM PE2.lt sz_b53)).ext E287).other W290 q330).ext E296).other W299 q330)
  have Zs332:n0≤h299.size:=(oT (oT (oT (oT (oT (oT Zs275 E278.1) (Keep.of_wr W283).1) E287.1) (Keep.of_wr W290).1) E296.1) (Keep.of_wr W299).1)
  have G333:=((((((((G37.keep K66).keep K173).keep K281).wr W283).ext E287).wr W290).ext E296).wr W299)
  refine own_cP X301 hx hZ hown e301 (ow136 hw) (ow137 hw) (own_seli (mvT hZ (ow2 hw)) (Cond.privateMethod_at (mvP hZ (ow138 hw) (args:=#[]))) (mvT hZ (ow137 hw)) (by decide)) (ow138 hw) (ow3 hw) (ow139 hw) G333 (y:=mn20) (argsL:=[vI 0]) (rest:=[vI 1,vR b12,vI 0,vR b296]) (W:=4) hml.symm (hb hby d1_405) (lenOf pd4 rfl) rfl (by decide) (rm19a61 l Z a0 hw [] b12 b31 b42 b53 k31 x31a x31b x31c kc31 k42 x42a x42b x42c kc42 k53 h299 n0 Zs332 G302 G303 G304 G309 G316 G321 G327 G331) fun _ T334 _ X334 hQ334=>?_
  obtain ⟨rfl,N334q,hh334⟩:=hQ334
  have N334:=Fr.app N301 N334q
  obtain ⟨_,X334,N334⟩:=own_hide X334 N334
  refine oV 408 #[oR b12,oI 1,oI 3,oR b14,oR b17,oI 1,oI 0,oI 3,oR b226,oI 2,oI 2,oI 0,oI 3] [(.long (-2097152:Int64)),vI 1,vR b12,vI 0,vR b296] ?_
  have q335:=oL u45 (oT c231 sg_b200)
  have q336:=oL u45 (oT c305 sg_b226)
  have q337:=oL u45 (oT c307 sg_b278)
  have G338:=((((((((((V191_4.ext E200).keep Kq225 (ninS q335 nin0)).ext E226).keep Kq267 (ninS q336 (ninS (Ne.symm nn_x31c_x31b) (ninS (oL u45 sg_x42c) (ninS q170 nin0))))).ext E278).other W283 (oM PE2.lt sz_x31b)).ext E287).other W290 q337).ext E296).other W299 q337)
  have q339:=oL u56 (oT c250 sg_b200)
  have q340:=oL u56 (oT c317 sg_b226)
  have q341:=oL u56 (oT c319 sg_b278)
  have G342:=((((((((((V191_6.ext E200).keep Kq225 (ninS q339 nin0)).ext E226).keep Kq267 (ninS q340 (ninS (oM u46 sg_x42b) (ninS (Ne.symm nn_x42c_x42b) (ninS (oL u56 sg_b53) nin0))))).ext E278).other W283 (oM PE2.lt sz_x42b)).ext E287).other W290 q341).ext E296).other W299 q341)
  refine own_cV X334 hx hZ hown hh334 (ow140 hw) (ow127 hw) (notFace_of_selects (args:=#[]) (mvT hZ (ow129 hw))) (ow129 hw) (ow128 hw) (ow3 hw) (ow130 hw) G333 (y:=mn18) (z:=mn18) (argsL:=[vI 1,(.long (-2097152:Int64))]) (rest:=[vI 0,vR b296]) (W:=2) hml.symm (hb hby d1_408) (lenOf pd12 rfl) rfl (by decide) (rm17a62 l Z a0 hw [] b12 (-2097152:Int64) b31 b42 k31 x31a x31b x31c kc31 k42 x42a x42b x42c kc42 h299 n0 Zs332 G302 G303 G309 G338 G321 G342) fun _ T343 _ X343 hQ343=>?_
  obtain ⟨rfl,N343q,hh343⟩:=hQ343
  have N343:=Fr.app N334 N343q
  obtain ⟨_,X343,N343⟩:=own_hide X343 N343
  refine oV 411 #[oR b12,oI 1,oI 3,oR b14,oR b17,oI 1,oI 0,oI 3,oR b226,oI 2,oI 2,oI 0,oI 3] [(.long (-4398044413953:Int64)),vI 0,vR b296] ?_
  have q344:=oM u288 (oT m298 sg_b296)
  obtain ⟨T345,h345,X345,e345,W345,V345,st345⟩:=own_stJ X343 hx hZ hh343 (V_b296.other W299 q344) (j:=(0:Int32)) ⟨by decide,by decide⟩ 0 rfl (Nat.le_of_ble_eq_true rfl) (g:=(mkF m 411 #[oR b12,oI 1,oI 3,oR b14,oR b17,oI 1,oI 0,oI 3,oR b226,oI 2,oI 2,oI 0,oI 3] [(.long (-4398044413953:Int64)),vI 0,vR b296])) rfl rfl (hb hby d1_411)
  have K345:Keep h0 h345 [b12]:=K299.wr W345 (Or.inr sz_b296)
  have V345s:Arv Z h345 b296 k296 .long 1 [(.long (-4398044413953:Int64))] (.long (0:Int64)):=V345
  have N345:=Fr.snoc X345 N343 n_b296
  refine oH st345 X345 tt 9 361 #[oR b12,oI 1,oI 3,oR b14,oR b17,oI 2,oI 1,oI 3,oR b226,oI 2,oI 2,oI 0,oI 3] [vR b17,vI 2] rfl ?_
  have c346:=oT c291 m289
  have c347:=oT c346 m298
  have q348:=oL u23 (oT c347 sg_b296)
  have G349:=(((G293.ext E296).other W299 (Or.inl q292)).other W345 (Or.inl q348))
  refine own_cI X345 hx hZ hown e345 (ow82 hw) (ow83 hw) (mvT hZ (ow84 hw)) (ow85 hw) (ow86 hw) (ow87 hw) (ow88 hw) (ow54 hw) (ow13 hw) (ow89 hw) (((((G284.ext E287).wr W290).ext E296).wr W299).wr W345) (y:=mn11) (z:=mn10) (argsL:=[]) (rest:=[vI 2]) (W:=1) hml.symm (hb hby d1_361) (lenOf pd0 rfl) rfl (by decide) (rm12a48 l Z a0 hw [] b17 h345 n0 (oT Zs332 (Keep.of_wr W345).1) G349) fun _ T350 _ X350 hQ350=>?_
  obtain ⟨rfl,N350q,hh350⟩:=hQ350
  have N350:=Fr.app N345 N350q
  obtain ⟨_,X350,N350⟩:=own_hide X350 N350
  refine oV 366 #[oR b12,oI 1,oI 3,oR b14,oR b17,oI 2,oI 1,oI 3,oR b226,oI 2,oI 2,oI 0,oI 3] [vI 3,vI 2] ?_
  refine oX2 a0 [b12,b14,b17,b226,b278] [0,0,0,0,0] [fE1_43 0 (vR 4)] [] [] [] 5 [oR 0,oI 1,oI 3,oR 1,oR 2,oI 2,oI 1,oI 3,oR 3,oI 2,oI 2,oI 0,oI 3] [vI 3,vI 2] [] 377 [oR 0,oI 1,oI 3,oR 1,oR 2,oI 2,oI 1,oI 3,oR 3,oI 2,oI 2,oI 0,oI 3] [vI 2,vI 2,vR 4] [] tt hZ hown X350 N350 hh350 (oA (ow122 hw) trivial) trivial (oA (G300.other W345 (Or.inl (oL PE2.lt sz_b296))) trivial) trivial (Or.inl rfl) trivial rfl rfl (by decide +kernel) 5 (by decide +kernel) fun T351 h351 _ X351 N351 e351 K351 q351 M351=>?_
  have e351:=e351.trans (q351 rfl)
  refine oV 377 #[oR b12,oI 1,oI 3,oR b14,oR b17,oI 2,oI 1,oI 3,oR b226,oI 2,oI 2,oI 0,oI 3] [vI 2,vI 2,vR b278] ?_
  obtain ⟨T352,h352,k352,X352,e352,E352,A352,EA352,st352⟩:=newPE (aty:=.long) X351 hx hZ (ow124 hw) e351 (g:=(mkF m 377 #[oR b12,oI 1,oI 3,oR b14,oR b17,oI 2,oI 1,oI 3,oR b226,oI 2,oI 2,oI 0,oI 3] [vI 2,vI 2,vR b278])) rfl (hb hby d1_377) rfl (by decide) (cap:=2) (by decide) (by decide) (by decide) (by decide) (ad:="[J") (by decide +kernel)
  obtain ⟨b352,g_b352⟩:∃ z,z = h345.size:=⟨_,rfl⟩
  have sg_b352:h345.size≤b352:=Nat.le_of_eq g_b352.symm
  rw [← g_b352] at A352 EA352 st352
  have n_b352:=oT (oT Zs332 (Keep.of_wr W345).1) sg_b352
  have sz_b352:=oT K345.1 sg_b352
  have u353:=(oW (oW V_b296.lt (Keep.of_wr W299).1) (Keep.of_wr W345).1)
  have m354:h290.size≤h345.size:=(oT (oT (oT (Nat.le_refl _) E296.1) (Keep.of_wr W299).1) (Keep.of_wr W345).1)
  have K352:Keep h0 h352 [b12]:=K345.ext E352
  have V_b352:Arv Z h352 b352 k352 .long 2 [(.long (0:Int64)),(.long (0:Int64))] (.long (0:Int64)):=(Arv.new A352 (by decide)).pad (pad_rep [] (.long (0:Int64)) 2)
  refine oJ 379 #[oR b12,oI 1,oI 3,oR b14,oR b17,oI 2,oI 1,oI 3,oR b226,oI 2,oI 2,oI 0,oI 3] [vR b352,vI 2,vR b278] st352 ?_
  obtain ⟨T355,h355,X355,e355,W355,V355,st355⟩:=own_stR X352 hx hZ e352 ((V299s.other W345 (Ne.symm q344)).ext E352) (j:=(2:Int32)) ⟨by decide,by decide⟩ rfl rfl (fun cl Ar q=>Sto.ofVA Ar q O278 (Ins.self EA352)) 2 rfl (Nat.le_of_ble_eq_true rfl) (g:=(mkF m 379 #[oR b12,oI 1,oI 3,oR b14,oR b17,oI 2,oI 1,oI 3,oR b226,oI 2,oI 2,oI 0,oI 3] [vR b352,vI 2,vR b278])) rfl rfl (hb hby d1_379)
  have K355:Keep h0 h355 [b12]:=K352.wr W355 (Or.inr sz_b278)
  have V355s:Arv Z h355 b278 k278 (.array .long) 3 [vR b287,vR b296,vR b352] .null:=V355
  have N355:=Fr.snoc X355 N351 n_b278
  refine oJ 380 #[oR b12,oI 1,oI 3,oR b14,oR b17,oI 2,oI 1,oI 3,oR b226,oI 2,oI 2,oI 0,oI 3] [] st355 ?_
  have G356:=(((G300.other W345 (Or.inl (oL PE2.lt sz_b296))).ext E352).other W355 (Or.inl (oL PE2.lt sz_b278)))
  refine oX2 a0 [b12,b14,b17,b226,b278,b287,b296,b352] [0,0,0,0,k278,0,0,0] [fE1_43 0 (vR 4)] [] [] [4] 8 [oR 0,oI 1,oI 3,oR 1,oR 2,oI 2,oI 1,oI 3,oR 3,oI 2,oI 2,oI 0,oI 3] [] [(4,(.array .long),3,[vR 5,vR 6,vR 7])] 405 [oR 0,oI 1,oI 3,oR 1,oR 2,oI 2,oI 0,oI 3,oR 3,oI 2,oI 2,oI 0,oI 3] [vI 0,vR 0,vI 2,vR 0,vI 0,vR 7] [] tt hZ hown X355 N355 e355 (oA (ow122 hw) trivial) trivial (oA G356 trivial) (oA V355s trivial) (Or.inl rfl) trivial rfl rfl (by decide +kernel) 14 (by decide +kernel) fun T357 h357 _ X357 N357 e357 K357 q357 M357=>?_
  have e357:=e357.trans (q357 rfl)
  refine oV 405 #[oR b12,oI 1,oI 3,oR b14,oR b17,oI 2,oI 0,oI 3,oR b226,oI 2,oI 2,oI 0,oI 3] [vI 0,vR b12,vI 2,vR b12,vI 0,vR b352] ?_
  have G358:=(((G302.other W345 (Or.inl (oL PE2.lt sz_b296))).ext E352).other W355 (Or.inl (oL PE2.lt sz_b278)))
  have G359:=(((G303.other W345 (Or.inl (oL PE2.lt sz_b296))).ext E352).other W355 (Or.inl (oL PE2.lt sz_b278)))
  have G360:=(((G304.other W345 (Or.inl (oL PE2.lt sz_b296))).ext E352).other W355 (Or.inl (oL PE2.lt sz_b278)))
  have c361:=oT c307 m289
  have c362:=oT c361 m298
  have q363:=oL u43 (oT c362 sg_b296)
  have q364:=oL u44 (oT c362 sg_b296)
  have c365:=oT c319 m289
  have c366:=oT c365 m298
  have q367:=oL u54 (oT c366 sg_b296)
  have q368:=oL u55 (oT c366 sg_b296)
  have c369:=oT c329 m289
  have c370:=oT c369 m298
  have q371:=oL u64 (oT c370 sg_b296)
  refine own_cP X357 hx hZ hown e357 (ow136 hw) (ow137 hw) (own_seli (mvT hZ (ow2 hw)) (Cond.privateMethod_at (mvP hZ (ow138 hw) (args:=#[]))) (mvT hZ (ow137 hw)) (by decide)) (ow138 hw) (ow3 hw) (ow139 hw) (((G333.wr W345).ext E352).wr W355) (y:=mn20) (argsL:=[vI 0]) (rest:=[vI 2,vR b12,vI 0,vR b352]) (W:=4) hml.symm (hb hby d1_405) (lenOf pd4 rfl) rfl (by decide) (rm19a61 l Z a0 hw [] b12 b31 b42 b53 k31 x31a x31b x31c kc31 k42 x42a x42b x42c kc42 k53 h355 n0 (oT (oT (oT Zs332 (Keep.of_wr W345).1) E352.1) (Keep.of_wr W355).1) G358 G359 G360 (((G309.other W345 q363).ext E352).other W355 q308) (((G316.other W345 q364).ext E352).other W355 q315) (((G321.other W345 q367).ext E352).other W355 q320) (((G327.other W345 q368).ext E352).other W355 q326) (((G331.other W345 q371).ext E352).other W355 q330)) fun _ T372 _ X372 hQ372=>?_
  obtain ⟨rfl,N372q,hh372⟩:=hQ372
  have N372:=Fr.app N357 N372q
  obtain ⟨_,X372,N372⟩:=own_hide X372 N372
  refine oV 408 #[oR b12,oI 1,oI 3,oR b14,oR b17,oI 2,oI 0,oI 3,oR b226,oI 2,oI 2,oI 0,oI 3] [(.long (-2097152:Int64)),vI 2,vR b12,vI 0,vR b352] ?_
  have q373:=oL u46 (oT c307 sg_b278)
  have q374:=oL u46 (oT c362 sg_b296)
  have K375:Keep _ h355 [b12,b278,b296]:=((((((((Keep.refl _ _).wr W283 oI0).ext E287).wr W290 oI1).ext E296).wr W299 oI1).wr W345 oI2).ext E352).wr W355 oI1
  have G376:=((V267_4.ext E278).keep K375 (ninS (oM PE2.lt sz_x31c) (ninS q373 (ninS q374 nin0))))
  have q377:=oL u57 (oT c319 sg_b278)
  have q378:=oL u57 (oT c366 sg_b296)
  have G379:=((V267_6.ext E278).keep K375 (ninS (oM PE2.lt sz_x42c) (ninS q377 (ninS q378 nin0))))
  refine own_cV X372 hx hZ hown hh372 (ow140 hw) (ow127 hw) (notFace_of_selects (args:=#[]) (mvT hZ (ow129 hw))) (ow129 hw) (ow128 hw) (ow3 hw) (ow130 hw) (((G333.wr W345).ext E352).wr W355) (y:=mn18) (z:=mn18) (argsL:=[vI 2,(.long (-2097152:Int64))]) (rest:=[vI 0,vR b352]) (W:=2) hml.symm (hb hby d1_408) (lenOf pd12 rfl) rfl (by decide) (rm17a63 l Z a0 hw [] b12 (-2097152:Int64) b31 b42 k31 x31a x31b x31c kc31 k42 x42a x42b x42c kc42 h355 n0 (oT (oT (oT Zs332 (Keep.of_wr W345).1) E352.1) (Keep.of_wr W355).1) G358 G359 (((G309.other W345 q363).ext E352).other W355 q308) G376 (((G321.other W345 q367).ext E352).other W355 q320) G379) fun _ T380 _ X380 hQ380=>?_
  obtain ⟨rfl,N380q,hh380⟩:=hQ380
  have N380:=Fr.app N372 N380q
  obtain ⟨_,X380,N380⟩:=own_hide X380 N380
  refine oV 411 #[oR b12,oI 1,oI 3,oR b14,oR b17,oI 2,oI 0,oI 3,oR b226,oI 2,oI 2,oI 0,oI 3] [(.long (-8796088827905:Int64)),vI 0,vR b352] ?_
  have c381:=oT m298 m354
  have q382:=oM u288 (oT c381 sg_b352)
  obtain ⟨T383,h383,X383,e383,W383,V383,st383⟩:=own_stJ X380 hx hZ hh380 (V_b352.other W355 q382) (j:=(0:Int32)) ⟨by decide,by decide⟩ 0 rfl (Nat.le_of_ble_eq_true rfl) (g:=(mkF m 411 #[oR b12,oI 1,oI 3,oR b14,oR b17,oI 2,oI 0,oI 3,oR b226,oI 2,oI 2,oI 0,oI 3] [(.long (-8796088827905:Int64)),vI 0,vR b352])) rfl rfl (hb hby d1_411)
  have K383:Keep h0 h383 [b12]:=K355.wr W383 (Or.inr sz_b352)
  have V383s:Arv Z h383 b352 k352 .long 2 [(.long (-8796088827905:Int64)),(.long (0:Int64))] (.long (0:Int64)):=V383
  have N383:=Fr.snoc X383 N380 n_b352
  refine oJ 412 #[oR b12,oI 1,oI 3,oR b14,oR b17,oI 2,oI 0,oI 3,oR b226,oI 2,oI 2,oI 0,oI 3] [] st383 ?_
  refine oX2 a0 [b12,b14,b17,b226,b278,b287,b296,b352] [0,0,0,0,k278,0,0,0] [fE1_43 0 (vR 4)] [] [] [4] 8 [oR 0,oI 1,oI 3,oR 1,oR 2,oI 2,oI 0,oI 3,oR 3,oI 2,oI 2,oI 0,oI 3] [] [(4,(.array .long),3,[vR 5,vR 6,vR 7])] 405 [oR 0,oI 1,oI 3,oR 1,oR 2,oI 2,oI 1,oI 3,oR 3,oI 2,oI 2,oI 0,oI 3] [vI 1,vR 0,vI 2,vR 0,vI 1,vR 7] [] tt hZ hown X383 N383 e383 (oA (ow122 hw) trivial) trivial (oA (G356.other W383 (Or.inl (oL PE2.lt sz_b352))) trivial) (oA (V355s.other W383 (Ne.symm q382)) trivial) (Or.inl rfl) trivial rfl rfl (by decide +kernel) 14 (by decide +kernel) fun T384 h384 _ X384 N384 e384 K384 q384 M384=>?_
  have e384:=e384.trans (q384 rfl)
  refine oV 405 #[oR b12,oI 1,oI 3,oR b14,oR b17,oI 2,oI 1,oI 3,oR b226,oI 2,oI 2,oI 0,oI 3] [vI 1,vR b12,vI 2,vR b12,vI 1,vR b352] ?_
  have c385:=oT c362 m354
  have q386:=oL u43 (oT c385 sg_b352)
  have G387:=((((G309.other W345 q363).ext E352).other W355 q308).other W383 q386)
  have q388:=oL u45 (oT c362 sg_b296)
  have q389:=oL u45 (oT c385 sg_b352)
  have G390:=((((G338.other W345 q388).ext E352).other W355 q337).other W383 q389)
  have c391:=oT c366 m354
  have q392:=oL u54 (oT c391 sg_b352)
  have G393:=((((G321.other W345 q367).ext E352).other W355 q320).other W383 q392)
  have q394:=oL u56 (oT c366 sg_b296)
  have q395:=oL u56 (oT c391 sg_b352)
  have G396:=((((G342.other W345 q394).ext E352).other W355 q341).other W383 q395)
  have c397:=oT c370 m354
  have q398:=oL u64 (oT c397 sg_b352)
  have G399:=((((G331.other W345 q371).ext E352).other W355 q330).other W383 q398)
  have Zs400:n0≤h383.size:=(oT (oT (oT (oT Zs332 (Keep.of_wr W345).1) E352.1) (Keep.of_wr W355).1) (Keep.of_wr W383).1)
  refine own_cP X384 hx hZ hown e384 (ow136 hw) (ow137 hw) (own_seli (mvT hZ (ow2 hw)) (Cond.privateMethod_at (mvP hZ (ow138 hw) (args:=#[]))) (mvT hZ (ow137 hw)) (by decide)) (ow138 hw) (ow3 hw) (ow139 hw) ((((G333.wr W345).ext E352).wr W355).wr W383) (y:=mn20) (argsL:=[vI 1]) (rest:=[vI 2,vR b12,vI 1,vR b352]) (W:=4) hml.symm (hb hby d1_405) (lenOf pd4 rfl) rfl (by decide) (rm19a64 l Z a0 hw [] b12 b31 b42 b53 k31 x31a x31b x31c kc31 k42 x42a x42b x42c kc42 k53 h383 n0 Zs400 (G358.other W383 (Or.inl (oL PE2.lt sz_b352))) (G359.other W383 (Or.inl (oL PE2.lt sz_b352))) (G360.other W383 (Or.inl (oL PE2.lt sz_b352))) G387 G390 G393 G396 G399) fun _ T401 _ X401 hQ401=>?_
  obtain ⟨rfl,N401q,hh401⟩:=hQ401
  have N401:=Fr.app N384 N401q
  obtain ⟨_,X401,N401⟩:=own_hide X401 N401
  refine oV 408 #[oR b12,oI 1,oI 3,oR b14,oR b17,oI 2,oI 1,oI 3,oR b226,oI 2,oI 2,oI 0,oI 3] [(.long (-4398044413953:Int64)),vI 2,vR b12,vI 1,vR b352] ?_
  have q402:=oL u46 (oT c385 sg_b352)
  have q403:=oL u57 (oT c391 sg_b352)
  refine own_cV X401 hx hZ hown hh401 (ow140 hw) (ow127 hw) (notFace_of_selects (args:=#[]) (mvT hZ (ow129 hw))) (ow129 hw) (ow128 hw) (ow3 hw) (ow130 hw) ((((G333.wr W345).ext E352).wr W355).wr W383) (y:=mn18) (z:=mn18) (argsL:=[vI 2,(.long (-4398044413953:Int64))]) (rest:=[vI 1,vR b352]) (W:=2) hml.symm (hb hby d1_408) (lenOf pd12 rfl) rfl (by decide) (rm17a63 l Z a0 hw [] b12 (-4398044413953:Int64) b31 b42 k31 x31a x31b x31c kc31 k42 x42a x42b x42c kc42 h383 n0 Zs400 (G358.other W383 (Or.inl (oL PE2.lt sz_b352))) (G359.other W383 (Or.inl (oL PE2.lt sz_b352))) G387 (G376.other W383 q402) G393 (G379.other W383 q403)) fun _ T404 _ X404 hQ404=>?_
  obtain ⟨rfl,N404q,hh404⟩:=hQ404
  have N404:=Fr.app N401 N404q
  obtain ⟨_,X404,N404⟩:=own_hide X404 N404
  refine oV 411 #[oR b12,oI 1,oI 3,oR b14,oR b17,oI 2,oI 1,oI 3,oR b226,oI 2,oI 2,oI 0,oI 3] [(.long (8796093022207:Int64)),vI 1,vR b352] ?_
  obtain ⟨T405,h405,X405,e405,W405,V405,st405⟩:=own_stJ X404 hx hZ hh404 V383s (j:=(1:Int32)) ⟨by decide,by decide⟩ 1 rfl (Nat.le_of_ble_eq_true rfl) (g:=(mkF m 411 #[oR b12,oI 1,oI 3,oR b14,oR b17,oI 2,oI 1,oI 3,oR b226,oI 2,oI 2,oI 0,oI 3] [(.long (8796093022207:Int64)),vI 1,vR b352])) rfl rfl (hb hby d1_411)
  have K405:Keep h0 h405 [b12]:=K383.wr W405 (Or.inr sz_b352)
  have V405s:Arv Z h405 b352 k352 .long 2 [(.long (-8796088827905:Int64)),(.long (8796093022207:Int64))] (.long (0:Int64)):=V405
  have N405:=Fr.snoc X405 N404 n_b352
  refine oH st405 X405 tt 9 361 #[oR b12,oI 1,oI 3,oR b14,oR b17,oI 3,oI 2,oI 3,oR b226,oI 2,oI 2,oI 0,oI 3] [vR b17,vI 3] rfl ?_
  have c406:=oT c347 m354
  have q407:=oL u23 (oT c406 sg_b352)
  have G408:=((((G349.ext E352).other W355 (Or.inl q292)).other W383 (Or.inl q407)).other W405 (Or.inl q407))
  have G409:=(((((((((G284.ext E287).wr W290).ext E296).wr W299).wr W345).ext E352).wr W355).wr W383).wr W405)
  refine own_cI X405 hx hZ hown e405 (ow82 hw) (ow83 hw) (mvT hZ (ow84 hw)) (ow85 hw) (ow86 hw) (ow87 hw) (ow88 hw) (ow54 hw) (ow13 hw) (ow89 hw) G409 (y:=mn11) (z:=mn10) (argsL:=[]) (rest:=[vI 3]) (W:=1) hml.symm (hb hby d1_361) (lenOf pd0 rfl) rfl (by decide) (rm12a48 l Z a0 hw [] b17 h405 n0 (oT Zs400 (Keep.of_wr W405).1) G408) fun _ T410 _ X410 hQ410=>?_
  obtain ⟨rfl,N410q,hh410⟩:=hQ410
  have N410:=Fr.app N405 N410q
  obtain ⟨_,X410,N410⟩:=own_hide X410 N410
  refine oV 366 #[oR b12,oI 1,oI 3,oR b14,oR b17,oI 3,oI 2,oI 3,oR b226,oI 2,oI 2,oI 0,oI 3] [vI 3,vI 3] ?_
  refine oG X410 tt 1 424 #[oR b12,oI 1,oI 3,oR b14,oR b17,oI 3,oI 2,oI 3,oR b226,oI 2,oI 2,oI 0,oI 3] [] rfl ?_
  refine own_ret X410 (v:=none) (fun _=>rfl) Bs (fun fs hr=>X410.returnOut hx Br (hb hby d1_424) hr) ?_ (by decide) (by decide)
  unfold Q1a39
  have G411:=((G358.other W383 (Or.inl (oL PE2.lt sz_b352))).other W405 (Or.inl (oL PE2.lt sz_b352)))
  have G412:=((G359.other W383 (Or.inl (oL PE2.lt sz_b352))).other W405 (Or.inl (oL PE2.lt sz_b352)))
  have G413:=((((((EE_b31.keep K66).keep K173).keep K281).keep K375).wr W383).wr W405)
  have q414:=oL u44 (oT c385 sg_b352)
  have G415:=(((((G316.other W345 q364).ext E352).other W355 q315).other W383 q414).other W405 q414)
  have G416:=((((((EE_x31a.keep K66).keep K173).keep K281).keep K375).wr W383).wr W405)
  have G417:=((((((EE_x31b.keep K66).keep K173).keep K281).keep K375).wr W383).wr W405)
  have G418:=((((((EE_x31c.keep K66).keep K173).keep K281).keep K375).wr W383).wr W405)
  have G419:=(((((((((EE_b42.wr W49).ext E53).wr W60).ext E63).keep K173).keep K281).keep K375).wr W383).wr W405)
  have q420:=oL u55 (oT c391 sg_b352)
  have G421:=(((((G327.other W345 q368).ext E352).other W355 q326).other W383 q420).other W405 q420)
  have G422:=(((((((((EE_x42a.wr W49).ext E53).wr W60).ext E63).keep K173).keep K281).keep K375).wr W383).wr W405)
  have G423:=(((((((((EE_x42b.wr W49).ext E53).wr W60).ext E63).keep K173).keep K281).keep K375).wr W383).wr W405)
  have G424:=(((((((((EE_x42c.wr W49).ext E53).wr W60).ext E63).keep K173).keep K281).keep K375).wr W383).wr W405)
  rw [hh410]
  exact ⟨b31,k31,x31a,kc31,x31b,x31c,b42,k42,x42a,kc42,x42b,x42c,rfl,N410,K405,n_b31,sz_b31,n_x31a,sz_x31a,n_x31b,sz_x31b,n_x31c,sz_x31c,n_b42,sz_b42,n_x42a,sz_x42a,n_x42b,sz_x42b,n_x42c,sz_x42c,nn_x31a_b31,nn_x31b_b31,nn_x31b_x31a,nn_x31c_b31,nn_x31c_x31a,nn_x31c_x31b,(oM u43 sg_b42),(oM u44 sg_b42),(oM u45 sg_b42),(oM u46 sg_b42),(oM u43 sg_x42a),(oM u44 sg_x42a),(oM u45 sg_x42a),(oM u46 sg_x42a),nn_x42a_b42,(oM u43 sg_x42b),(oM u44 sg_x42b),(oM u45 sg_x42b),(oM u46 sg_x42b),nn_x42b_b42,nn_x42b_x42a,(oM u43 sg_x42c),(oM u44 sg_x42c),(oM u45 sg_x42c),(oM u46 sg_x42c),nn_x42c_b42,nn_x42c_x42a,nn_x42c_x42b,G411,G412,(G387.other W405 q386),O31,G413,G415,G416,(G390.other W405 q389),G417,((G376.other W383 q402).other W405 q402),G418,(G393.other W405 q392),O42,G419,G421,G422,(G396.other W405 q395),G423,((G379.other W383 q403).other W405 q403),G424⟩
def Q17a65 (Z:State)(q2:Int64)(h0:Heap)(n0:Nat)(v:Option Value)(h:Heap)(L:List Loc):Prop:=v = some (.long (kf (kf (kf 0 q2 42 22) q2 21 21) q2 0 21))∧Fr n0 L∧h = h0
set_option maxRecDepth 65536 in
set_option maxHeartbeats 40000000 in
theorem rm17a65 (l:Launch)(Z:State)(a0:Array Value)(hw:HW a0 Z)(ws:List Jvm.Cond)(b5:Addr)(q2:Int64)(b6a b6g:Addr)(k6b:ClassId)(b6c b6e b6f:Addr)(k6d k6h:ClassId)(b6i b6k b6l:Addr)(k6j:ClassId)(h0:Heap)(n0:Nat)(Z0:n0≤h0.size)(PF3:oF3 Z h0 b5 (vR b6a))(PF4:oF4 Z h0 b5 (vR b6g))(PV7:Arv Z h0 b6a k6b (.array .int) 3 [vR b6c,vR b6e,vR b6f] .null)(PV9:Arv Z h0 b6c k6d .int 3 [vI 42,vI 21,vI 0] (vI 0))(PV15:Arv Z h0 b6g k6h (.array .int) 3 [vR b6i,vR b6k,vR b6l] .null)(PV17:Arv Z h0 b6i k6j .int 3 [vI 22,vI 21,vI 21] (vI 0)) :
    own_Met l mn18 prog_28_method_6_code 9 (some .long) ws (oRm 0 0 0 0) #[vR b5,vI 0,(.long q2)] Z h0 (Q17a65 Z q2 h0 n0):=by
  refine own_met (own:=oLy) rfl (plainFor_of_name pn_0) ?_
  intro p e s m below meth c s₁ hx hby hml hZ hown hnm X0 e0 Br Bs
  have N0:=Fr.nil n0
  have tt:=own_tt hx hby own_ok17
  refine oV 0 #[oR b5,oI 0,oQ q2,oS,oU,oU,oU,oU,oU] [] ?_
  refine oX3 a0 [b5,b6a,b6c,b6e,b6f,b6g,b6i,b6k,b6l] [0,k6b,k6d,0,0,k6h,k6j,0,0] [fE17_29 0 (vR 5),fE17_26 0 (vR 1)] [(86,(-1))] [] [5,6,1,2] 9 [oR 0,oI 0,oQ q2,oS,oU,oU,oU,oU,oU] [] [(5,(.array .int),3,[vR 6,vR 7,vR 8]),(6,.int,3,[vI 22,vI 21,vI 21]),(1,(.array .int),3,[vR 2,vR 3,vR 4]),(2,.int,3,[vI 42,vI 21,vI 0])] 73 [oR 0,oI 0,oQ q2,oS,oQ (kf (kf (kf 0 q2 42 22) q2 21 21) q2 0 21),oS,oI 3,oQ (kg q2 0 21),oS] [.long (kf (kf (kf 0 q2 42 22) q2 21 21) q2 0 21)] [] tt hZ hown X0 N0 e0 (oA (ow94 hw) (oA (ow92 hw) trivial)) (oA (ow131 hw) trivial) (oA PF4 (oA PF3 trivial)) (oA PV15 (oA PV17 (oA PV7 (oA PV9 trivial)))) (Or.inl rfl) trivial rfl rfl (by decide +kernel) _ (oC 11 18 [oR 0,oI 0,oQ q2,oS,oQ 0,oS,oI 0,oU,oU] [] rfl (oC 10 34 [oR 0,oI 0,oQ q2,oS,oQ 0,oS,oI 0,oU,oU] [vI 64,.long (-1),.long (kh q2 42)] rfl (oC 10 48 [oR 0,oI 0,oQ q2,oS,oQ 0,oS,oI 0,oQ (kg q2 42 22),oS] [] rfl (oC 11 65 [oR 0,oI 0,oQ q2,oS,oQ (kf 0 q2 42 22),oS,oI 0,oQ (kg q2 42 22),oS] [] rfl (oC 9 18 [oR 0,oI 0,oQ q2,oS,oQ (kf 0 q2 42 22),oS,oI 1,oQ (kg q2 42 22),oS] [] rfl (oC 10 34 [oR 0,oI 0,oQ q2,oS,oQ (kf 0 q2 42 22),oS,oI 1,oQ (kg q2 42 22),oS] [vI 64,.long (-1),.long (kh q2 21)] rfl (oC 10 48 [oR 0,oI 0,oQ q2,oS,oQ (kf 0 q2 42 22),oS,oI 1,oQ (kg q2 21 21),oS] [] rfl (oC 11 65 [oR 0,oI 0,oQ q2,oS,oQ (kf (kf 0 q2 42 22) q2 21 21),oS,oI 1,oQ (kg q2 21 21),oS] [] rfl (oC 9 18 [oR 0,oI 0,oQ q2,oS,oQ (kf (kf 0 q2 42 22) q2 21 21),oS,oI 2,oQ (kg q2 21 21),oS] [] rfl (oC 10 34 [oR 0,oI 0,oQ q2,oS,oQ (kf (kf 0 q2 42 22) q2 21 21),oS,oI 2,oQ (kg q2 21 21),oS] [vI 64,.long (-1),.long (kh q2 0)] rfl (oC 10 48 [oR 0,oI 0,oQ q2,oS,oQ (kf (kf 0 q2 42 22) q2 21 21),oS,oI 2,oQ (kg q2 0 21),oS] [] rfl (oC 11 65 [oR 0,oI 0,oQ q2,oS,oQ (kf (kf (kf 0 q2 42 22) q2 21 21) q2 0 21),oS,oI 2,oQ (kg q2 0 21),oS] [] (n2:=10) rfl rfl)))))))))))) fun T8 h8 _ X8 N8 e8 K8 q8 M8=>?_
  have e8:=e8.trans (q8 rfl)
  refine oV 73 #[oR b5,oI 0,oQ q2,oS,oQ (kf (kf (kf 0 q2 42 22) q2 21 21) q2 0 21),oS,oI 3,oQ (kg q2 0 21),oS] [(.long (kf (kf (kf 0 q2 42 22) q2 21 21) q2 0 21))] ?_
  refine own_ret X8 (v:=some (.long (kf (kf (kf 0 q2 42 22) q2 21 21) q2 0 21))) (oN Br) Bs (fun fs hr=>own_retL X8 hx Br (hb hby d17_73) hr) ?_ (by decide) (by decide)
  unfold Q17a65
  exact ⟨rfl,N8,e8⟩
def Q18a66 (Z:State)(q2:Int64)(h0:Heap)(n0:Nat)(v:Option Value)(h:Heap)(L:List Loc):Prop:=v = some (.long q2)∧Fr n0 L∧h = h0
set_option maxRecDepth 65536 in
set_option maxHeartbeats 40000000 in
theorem rm18a66 (l:Launch)(Z:State)(a0:Array Value)(hw:HW a0 Z)(ws:List Jvm.Cond)(q2:Int64)(h0:Heap)(n0:Nat)(Z0:n0≤h0.size) :
    own_Met l mn19 method_3_code 12 (some .long) ws (oRm 0 0 0 0) #[vI 2,vI 0,(.long q2)] Z h0 (Q18a66 Z q2 h0 n0):=by
  refine own_met (own:="com/example/libakin/libakin/simhash/LayoutKeyPinLaw") rfl (plainFor_of_name pn_1) ?_
  intro p e s m below meth c s₁ hx hby hml hZ hown hnm X0 e0 Br Bs
  have N0:=Fr.nil n0
  have tt:=own_tt hx hby own_ok18
  refine oV 0 #[oI 2,oI 0,oQ q2,oS,oU,oU,oU,oU,oU,oU,oU,oU] [] ?_
  refine oG X0 tt 3 5 #[oI 2,oI 0,oQ q2,oS,oU,oU,oU,oU,oU,oU,oU,oU] [(.long q2)] rfl ?_
  refine own_ret X0 (v:=some (.long q2)) (oN Br) Bs (fun fs hr=>own_retL X0 hx Br (hb hby d18_5) hr) ?_ (by decide) (by decide)
  unfold Q18a66
  exact ⟨rfl,N0,e0⟩
theorem d18_78:decode method_3_code 78 = .ok (.lreturn,1):=by decide +kernel
def Q18a67 (Z:State)(q2:Int64)(h0:Heap)(n0:Nat)(v:Option Value)(h:Heap)(L:List Loc):Prop:=v = some (.long (((((q2.toUInt64 >>> ((42:Int32) &&& 0x3f).toInt64.toUInt64).toInt64) <<< ((42:Int32) &&& 0x3f).toInt64) ||| ((q2 &&& (2097151:Int64)) <<< ((21:Int32) &&& 0x3f).toInt64)) ||| (((q2.toUInt64 >>> ((21:Int32) &&& 0x3f).toInt64.toUInt64).toInt64) &&& (2097151:Int64))))∧Fr n0 L∧h = h0
set_option maxRecDepth 65536 in
set_option maxHeartbeats 40000000 in
theorem rm18a67 (l:Launch)(Z:State)(a0:Array Value)(hw:HW a0 Z)(ws:List Jvm.Cond)(q2:Int64)(h0:Heap)(n0:Nat)(Z0:n0≤h0.size) :
    own_Met l mn19 method_3_code 12 (some .long) ws (oRm 0 0 0 0) #[vI 2,vI 1,(.long q2)] Z h0 (Q18a67 Z q2 h0 n0):=by
  refine own_met (own:="com/example/libakin/libakin/simhash/LayoutKeyPinLaw") rfl (plainFor_of_name pn_1) ?_
  intro p e s m below meth c s₁ hx hby hml hZ hown hnm X0 e0 Br Bs
  have N0:=Fr.nil n0
  have tt:=own_tt hx hby own_ok18
  refine oV 0 #[oI 2,oI 1,oQ q2,oS,oU,oU,oU,oU,oU,oU,oU,oU] [] ?_
  refine oX3 a0 [] [] [] [(23,2097151)] [] [] 0 [oI 2,oI 1,oQ q2,oS,oU,oU,oU,oU,oU,oU,oU,oU] [] [] 78 [oI 2,oI 1,oQ q2,oS,oQ ((q2.toUInt64 >>> ((42:Int32) &&& 0x3f).toInt64.toUInt64).toInt64),oS,oQ (((q2.toUInt64 >>> ((21:Int32) &&& 0x3f).toInt64.toUInt64).toInt64) &&& (2097151:Int64)),oS,oQ (q2 &&& (2097151:Int64)),oS,oU,oU] [.long (((((q2.toUInt64 >>> ((42:Int32) &&& 0x3f).toInt64.toUInt64).toInt64) <<< ((42:Int32) &&& 0x3f).toInt64) ||| ((q2 &&& (2097151:Int64)) <<< ((21:Int32) &&& 0x3f).toInt64)) ||| (((q2.toUInt64 >>> ((21:Int32) &&& 0x3f).toInt64.toUInt64).toInt64) &&& (2097151:Int64)))] [] tt hZ hown X0 N0 e0 trivial (oA (ow142 hw) trivial) trivial trivial (Or.inl rfl) trivial rfl rfl (by decide +kernel) _ (oC 8 31 [oI 2,oI 1,oQ q2,oS,oU,oU,oU,oU,oU,oU,oU,oU] [] rfl (oC 8 44 [oI 2,oI 1,oQ q2,oS,oQ ((q2.toUInt64 >>> ((42:Int32) &&& 0x3f).toInt64.toUInt64).toInt64),oS,oU,oU,oU,oU,oU,oU] [.long 2097151,.long ((q2.toUInt64 >>> ((21:Int32) &&& 0x3f).toInt64.toUInt64).toInt64)] rfl (oC 8 56 [oI 2,oI 1,oQ q2,oS,oQ ((q2.toUInt64 >>> ((42:Int32) &&& 0x3f).toInt64.toUInt64).toInt64),oS,oQ (((q2.toUInt64 >>> ((21:Int32) &&& 0x3f).toInt64.toUInt64).toInt64) &&& (2097151:Int64)),oS,oQ (q2 &&& (2097151:Int64)),oS,oU,oU] [vI 2,vI 2] rfl (oC 8 71 [oI 2,oI 1,oQ q2,oS,oQ ((q2.toUInt64 >>> ((42:Int32) &&& 0x3f).toInt64.toUInt64).toInt64),oS,oQ (((q2.toUInt64 >>> ((21:Int32) &&& 0x3f).toInt64.toUInt64).toInt64) &&& (2097151:Int64)),oS,oQ (q2 &&& (2097151:Int64)),oS,oU,oU] [.long (q2 &&& (2097151:Int64)),.long (((q2.toUInt64 >>> ((42:Int32) &&& 0x3f).toInt64.toUInt64).toInt64) <<< ((42:Int32) &&& 0x3f).toInt64)] (n2:=5) rfl rfl)))) fun T4 h4 _ X4 N4 e4 K4 q4 M4=>?_
  have e4:=e4.trans (q4 rfl)
  refine oV 78 #[oI 2,oI 1,oQ q2,oS,oQ ((q2.toUInt64 >>> ((42:Int32) &&& 0x3f).toInt64.toUInt64).toInt64),oS,oQ (((q2.toUInt64 >>> ((21:Int32) &&& 0x3f).toInt64.toUInt64).toInt64) &&& (2097151:Int64)),oS,oQ (q2 &&& (2097151:Int64)),oS,oU,oU] [(.long (((((q2.toUInt64 >>> ((42:Int32) &&& 0x3f).toInt64.toUInt64).toInt64) <<< ((42:Int32) &&& 0x3f).toInt64) ||| ((q2 &&& (2097151:Int64)) <<< ((21:Int32) &&& 0x3f).toInt64)) ||| (((q2.toUInt64 >>> ((21:Int32) &&& 0x3f).toInt64.toUInt64).toInt64) &&& (2097151:Int64))))] ?_
  refine own_ret X4 (v:=some (.long (((((q2.toUInt64 >>> ((42:Int32) &&& 0x3f).toInt64.toUInt64).toInt64) <<< ((42:Int32) &&& 0x3f).toInt64) ||| ((q2 &&& (2097151:Int64)) <<< ((21:Int32) &&& 0x3f).toInt64)) ||| (((q2.toUInt64 >>> ((21:Int32) &&& 0x3f).toInt64.toUInt64).toInt64) &&& (2097151:Int64))))) (oN Br) Bs (fun fs hr=>own_retL X4 hx Br (hb hby d18_78) hr) ?_ (by decide) (by decide)
  unfold Q18a67
  exact ⟨rfl,N4,e4⟩
theorem d18_93:decode method_3_code 93 = .ok (.lreturn,1):=by decide +kernel
def Q18a68 (Z:State)(q2:Int64)(h0:Heap)(n0:Nat)(v:Option Value)(h:Heap)(L:List Loc):Prop:=v = some (.long ((((((q2.toUInt64 >>> ((21:Int32) &&& 0x3f).toInt64.toUInt64).toInt64) &&& (2097151:Int64)) <<< ((43:Int32) &&& 0x3f).toInt64) ||| ((q2 &&& (2097151:Int64)) <<< ((22:Int32) &&& 0x3f).toInt64)) ||| ((q2.toUInt64 >>> ((42:Int32) &&& 0x3f).toInt64.toUInt64).toInt64)))∧Fr n0 L∧h = h0
set_option maxRecDepth 65536 in
set_option maxHeartbeats 40000000 in
theorem rm18a68 (l:Launch)(Z:State)(a0:Array Value)(hw:HW a0 Z)(ws:List Jvm.Cond)(q2:Int64)(h0:Heap)(n0:Nat)(Z0:n0≤h0.size) :
    own_Met l mn19 method_3_code 12 (some .long) ws (oRm 0 0 0 0) #[vI 2,vI 2,(.long q2)] Z h0 (Q18a68 Z q2 h0 n0):=by
  refine own_met (own:="com/example/libakin/libakin/simhash/LayoutKeyPinLaw") rfl (plainFor_of_name pn_1) ?_
  intro p e s m below meth c s₁ hx hby hml hZ hown hnm X0 e0 Br Bs
  have N0:=Fr.nil n0
  have tt:=own_tt hx hby own_ok18
  refine oV 0 #[oI 2,oI 2,oQ q2,oS,oU,oU,oU,oU,oU,oU,oU,oU] [] ?_
  refine oX3 a0 [] [] [] [(23,2097151)] [] [] 0 [oI 2,oI 2,oQ q2,oS,oU,oU,oU,oU,oU,oU,oU,oU] [] [] 93 [oI 2,oI 2,oQ q2,oS,oQ ((q2.toUInt64 >>> ((42:Int32) &&& 0x3f).toInt64.toUInt64).toInt64),oS,oQ (((q2.toUInt64 >>> ((21:Int32) &&& 0x3f).toInt64.toUInt64).toInt64) &&& (2097151:Int64)),oS,oQ (q2 &&& (2097151:Int64)),oS,oU,oU] [.long ((((((q2.toUInt64 >>> ((21:Int32) &&& 0x3f).toInt64.toUInt64).toInt64) &&& (2097151:Int64)) <<< ((43:Int32) &&& 0x3f).toInt64) ||| ((q2 &&& (2097151:Int64)) <<< ((22:Int32) &&& 0x3f).toInt64)) ||| ((q2.toUInt64 >>> ((42:Int32) &&& 0x3f).toInt64.toUInt64).toInt64))] [] tt hZ hown X0 N0 e0 trivial (oA (ow142 hw) trivial) trivial trivial (Or.inl rfl) trivial rfl rfl (by decide +kernel) _ (oC 8 31 [oI 2,oI 2,oQ q2,oS,oU,oU,oU,oU,oU,oU,oU,oU] [] rfl (oC 8 44 [oI 2,oI 2,oQ q2,oS,oQ ((q2.toUInt64 >>> ((42:Int32) &&& 0x3f).toInt64.toUInt64).toInt64),oS,oU,oU,oU,oU,oU,oU] [.long 2097151,.long ((q2.toUInt64 >>> ((21:Int32) &&& 0x3f).toInt64.toUInt64).toInt64)] rfl (oC 8 56 [oI 2,oI 2,oQ q2,oS,oQ ((q2.toUInt64 >>> ((42:Int32) &&& 0x3f).toInt64.toUInt64).toInt64),oS,oQ (((q2.toUInt64 >>> ((21:Int32) &&& 0x3f).toInt64.toUInt64).toInt64) &&& (2097151:Int64)),oS,oQ (q2 &&& (2097151:Int64)),oS,oU,oU] [vI 2,vI 2] rfl (oC 8 86 [oI 2,oI 2,oQ q2,oS,oQ ((q2.toUInt64 >>> ((42:Int32) &&& 0x3f).toInt64.toUInt64).toInt64),oS,oQ (((q2.toUInt64 >>> ((21:Int32) &&& 0x3f).toInt64.toUInt64).toInt64) &&& (2097151:Int64)),oS,oQ (q2 &&& (2097151:Int64)),oS,oU,oU] [.long (q2 &&& (2097151:Int64)),.long ((((q2.toUInt64 >>> ((21:Int32) &&& 0x3f).toInt64.toUInt64).toInt64) &&& (2097151:Int64)) <<< ((43:Int32) &&& 0x3f).toInt64)] (n2:=5) rfl rfl)))) fun T4 h4 _ X4 N4 e4 K4 q4 M4=>?_
  have e4:=e4.trans (q4 rfl)
  refine oV 93 #[oI 2,oI 2,oQ q2,oS,oQ ((q2.toUInt64 >>> ((42:Int32) &&& 0x3f).toInt64.toUInt64).toInt64),oS,oQ (((q2.toUInt64 >>> ((21:Int32) &&& 0x3f).toInt64.toUInt64).toInt64) &&& (2097151:Int64)),oS,oQ (q2 &&& (2097151:Int64)),oS,oU,oU] [(.long ((((((q2.toUInt64 >>> ((21:Int32) &&& 0x3f).toInt64.toUInt64).toInt64) &&& (2097151:Int64)) <<< ((43:Int32) &&& 0x3f).toInt64) ||| ((q2 &&& (2097151:Int64)) <<< ((22:Int32) &&& 0x3f).toInt64)) ||| ((q2.toUInt64 >>> ((42:Int32) &&& 0x3f).toInt64.toUInt64).toInt64)))] ?_
  refine own_ret X4 (v:=some (.long ((((((q2.toUInt64 >>> ((21:Int32) &&& 0x3f).toInt64.toUInt64).toInt64) &&& (2097151:Int64)) <<< ((43:Int32) &&& 0x3f).toInt64) ||| ((q2 &&& (2097151:Int64)) <<< ((22:Int32) &&& 0x3f).toInt64)) ||| ((q2.toUInt64 >>> ((42:Int32) &&& 0x3f).toInt64.toUInt64).toInt64)))) (oN Br) Bs (fun fs hr=>own_retL X4 hx Br (hb hby d18_93) hr) ?_ (by decide) (by decide)
  unfold Q18a68
  exact ⟨rfl,N4,e4⟩
def Q6a71 (Z:State)(b3:Addr)(k4:ClassId)(h0:Heap)(n0:Nat)(v:Option Value)(h:Heap)(L:List Loc):Prop:=∃ (b5a:Addr)(k5b:ClassId)(b6:Addr),v = none∧Fr n0 L∧Keep h0 h [b3]∧n0≤b5a∧h0.size≤b5a∧n0≤b6∧h0.size≤b6∧b6≠b5a∧oF0 Z h b3 (vI 1)∧oF1 Z h b3 (vR b5a)∧oF2 Z h b3 (vI 1)∧Arv Z h b5a k5b (.object oOb) 10 [vR b6,.null,.null,.null,.null,.null,.null,.null,.null,.null] .null∧Ovr Z k5b oOb∧Arv Z h b6 k4 .int 1 [vI 0] (vI 0)∧Exa Z h b6 "[I"
set_option maxRecDepth 65536 in
set_option maxHeartbeats 40000000 in
theorem rm6a71 (l:Launch)(Z:State)(a0:Array Value)(hw:HW a0 Z)(ws:List Jvm.Cond)(b5 b6 wd:Addr)(kd k5:ClassId)(h0:Heap)(n0:Nat)(Z0:n0≤h0.size)(PS0:Sta Z h0 "java/util/ArrayList" "DEFAULTCAPACITY_EMPTY_ELEMENTDATA" "[Ljava/lang/Object;" (vR wd))(PV1:Arv Z h0 wd kd (.object oOb) 0 [] .null)(PE9:Exa Z h0 b6 "java/util/ArrayList")(PF10:oF0 Z h0 b6 (vI 0))(PF11:oF1 Z h0 b6 (vR wd))(PF12:oF2 Z h0 b6 (vI 0))(PV13:Arv Z h0 b5 k5 .int 1 [vI 0] (vI 0))(PE14:Exa Z h0 b5 "[I")(ne_wd_b6:wd≠b6)(n_b6:n0≤b6) :
    own_Met l mn9 prog_28_method_10_code 7 none ws (oRm 5 2 11 69) #[vI 3,vI 1,vI 1,vR b5,vI 1,vR b6] Z h0 (Q6a71 Z b6 k5 h0 n0):=by
  refine own_met (own:=oLy) rfl (plainFor_of_name pn_0) ?_
  intro p e s m below meth c s₁ hx hby hml hZ hown hnm X0 e0 Br Bs
  have N0:=Fr.nil n0
  have tt:=own_tt hx hby own_ok6
  refine oV 0 #[oI 3,oI 1,oI 1,oR b5,oI 1,oR b6,oU] [] ?_
  refine oG X0 tt 5 9 #[oI 3,oI 1,oI 1,oR b5,oI 1,oR b6,oU] [vR b5,vR b6] rfl ?_
  obtain ⟨T7,h7,X7,e7,E7,A7,EA7,st7⟩:=cloneH X0 hx hZ hown (ow38 hw) (ow39 hw) (ow43 hw) (ow41 hw) (ow42 hw) (ow44 hw) e0 (hs:=[]) PV13 PE14 (g:=(mkF m 9 #[oI 3,oI 1,oI 1,oR b5,oI 1,oR b6,oU] [vR b5,vR b6])) rfl hml.symm rfl (hb hby d6_9) (by decide) (W:=1) (cap:=1) (oZ rfl) (by decide) (by decide) (by decide) (by decide)
  obtain ⟨b7,g_b7⟩:∃ z,z = h0.size:=⟨_,rfl⟩
  have sg_b7:h0.size≤b7:=Nat.le_of_eq g_b7.symm
  rw [← g_b7] at A7 EA7 st7
  have n_b7:=oT Z0 sg_b7
  have sz_b7:=oT (Keep.refl h0 [b6]).1 sg_b7
  have K7:Keep h0 h7 [b6]:=(Keep.refl h0 [b6]).ext E7
  have V_b7:Arv Z h7 b7 k5 .int 1 [vI 0] (vI 0):=A7
  refine oJ 12 #[oI 3,oI 1,oI 1,oR b5,oI 1,oR b6,oU] [vR b7,vR b6] st7 ?_
  obtain ⟨T8,X8,e8,st8⟩:=castY X7 hx hZ hown (ow45 hw) e7 (Ins.self EA7) (g:=(mkF m 12 #[oI 3,oI 1,oI 1,oR b5,oI 1,oR b6,oU] [vR b7,vR b6])) rfl rfl (hb hby d6_12)
  refine oJ 15 #[oI 3,oI 1,oI 1,oR b5,oI 1,oR b6,oU] [vR b7,vR b6] st8 ?_
  refine own_cI X8 hx hZ hown e8 (ow47 hw) (ow48 hw) (mvT hZ (ow49 hw)) (ow50 hw) (ow51 hw) (ow52 hw) (ow53 hw) (ow54 hw) (ow13 hw) (ow55 hw) (PE9.ext E7) (y:=mn8) (z:=mn7) (argsL:=[vR b7]) (rest:=[]) (W:=0) hml.symm (hb hby d6_15) (lenOf pd13 rfl) rfl (by decide) (rm7a7 l Z a0 hw [] b6 b7 wd kd h7 n0 (oT Z0 E7.1) (PS0.ext E7) (PV1.ext E7) (PE9.ext E7) (PF10.ext E7) (PF11.ext E7) (PF12.ext E7) EA7 ne_wd_b6 n_b6) fun _ T15 _ X15 hQ15=>?_
  obtain ⟨b15a,k15b,rfl,N15q,K15,n_b15a,sg_b15a,g15_0,g15_1,g15_2,g15_3,g15_4⟩:=hQ15
  have N15:=Fr.app N0 N15q
  have sz_b15a:=oT K7.1 sg_b15a
  have u16:b7 < h7.size:=V_b7.lt
  have m17:h0.size≤h7.size:=(oT (Nat.le_refl _) E7.1)
  have eK15:T15.heap = T15.heap:=rfl
  have KK15:Keep h0 T15.heap [b6]:=Keep.trans K7 K15 (allS oI0 all0)
  obtain ⟨_,X15,N15⟩:=own_hide X15 N15
  refine oV 20 #[oI 3,oI 1,oI 1,oR b5,oI 1,oR b6,oU] [vI 1] ?_
  refine oG X15 tt 2 66 #[oI 3,oI 1,oI 1,oR b5,oI 1,oR b6,oU] [] rfl ?_
  refine own_ret X15 (v:=none) (fun _=>rfl) Bs (fun fs hr=>X15.returnOut hx Br (hb hby d6_66) hr) ?_ (by decide) (by decide)
  unfold Q6a71
  rw [eK15]
  exact ⟨b15a,k15b,b7,rfl,N15,KK15,n_b15a,sz_b15a,n_b7,sz_b7,(oL u16 sg_b15a),g15_0,g15_1,g15_2,g15_3,g15_4,(V_b7.keep K15 (ninS (oM PE9.lt sz_b7) nin0)),(EA7.keep K15)⟩
def Q6a72 (Z:State)(b3 b4a:Addr)(k5 k4b:ClassId)(b4c:Addr)(h0:Heap)(n0:Nat)(v:Option Value)(h:Heap)(L:List Loc):Prop:=∃ (b6:Addr),v = none∧Fr n0 L∧Keep h0 h [b4a,b3]∧n0≤b6∧h0.size≤b6∧Arv Z h b4a k4b (.object oOb) 10 [vR b4c,vR b6,.null,.null,.null,.null,.null,.null,.null,.null] .null∧oF0 Z h b3 (vI 2)∧oF1 Z h b3 (vR b4a)∧oF2 Z h b3 (vI 2)∧Arv Z h b6 k5 .int 1 [vI 1] (vI 0)∧Exa Z h b6 "[I"
set_option maxRecDepth 65536 in
set_option maxHeartbeats 40000000 in
theorem rm6a72 (l:Launch)(Z:State)(a0:Array Value)(hw:HW a0 Z)(ws:List Jvm.Cond)(b4 b5 b6a:Addr)(k4 k6b:ClassId)(b6c:Addr)(h0:Heap)(n0:Nat)(Z0:n0≤h0.size)(PE9:Exa Z h0 b5 "java/util/ArrayList")(PF10:oF0 Z h0 b5 (vI 1))(PF11:oF1 Z h0 b5 (vR b6a))(PF12:oF2 Z h0 b5 (vI 1))(PV13:Arv Z h0 b4 k4 .int 1 [vI 1] (vI 0))(PE14:Exa Z h0 b4 "[I")(PV15:Arv Z h0 b6a k6b (.object oOb) 10 [vR b6c,.null,.null,.null,.null,.null,.null,.null,.null,.null] .null)(ov_b6a:Ovr Z k6b oOb)(ne_b5_b6a:b5≠b6a)(ne_b6a_b5:b6a≠b5)(n_b5:n0≤b5)(n_b6a:n0≤b6a) :
    own_Met l mn9 prog_28_method_10_code 7 none ws (oRm 2 1 1 28) #[vI 3,vI 1,vI 2,vR b4,vI 1,vR b5] Z h0 (Q6a72 Z b5 b6a k4 k6b b6c h0 n0):=by
  refine own_met (own:=oLy) rfl (plainFor_of_name pn_0) ?_
  intro p e s m below meth c s₁ hx hby hml hZ hown hnm X0 e0 Br Bs
  have N0:=Fr.nil n0
  have tt:=own_tt hx hby own_ok6
  refine oV 0 #[oI 3,oI 1,oI 2,oR b4,oI 1,oR b5,oU] [] ?_
  refine oG X0 tt 5 9 #[oI 3,oI 1,oI 2,oR b4,oI 1,oR b5,oU] [vR b4,vR b5] rfl ?_
  obtain ⟨T7,h7,X7,e7,E7,A7,EA7,st7⟩:=cloneH X0 hx hZ hown (ow38 hw) (ow39 hw) (ow43 hw) (ow41 hw) (ow42 hw) (ow44 hw) e0 (hs:=[]) PV13 PE14 (g:=(mkF m 9 #[oI 3,oI 1,oI 2,oR b4,oI 1,oR b5,oU] [vR b4,vR b5])) rfl hml.symm rfl (hb hby d6_9) (by decide) (W:=1) (cap:=1) (oZ rfl) (by decide) (by decide) (by decide) (by decide)
  obtain ⟨b7,g_b7⟩:∃ z,z = h0.size:=⟨_,rfl⟩
  have sg_b7:h0.size≤b7:=Nat.le_of_eq g_b7.symm
  rw [← g_b7] at A7 EA7 st7
  have n_b7:=oT Z0 sg_b7
  have sz_b7:=oT (Keep.refl h0 [b6a,b5]).1 sg_b7
  have K7:Keep h0 h7 [b6a,b5]:=(Keep.refl h0 [b6a,b5]).ext E7
  have V_b7:Arv Z h7 b7 k4 .int 1 [vI 1] (vI 0):=A7
  refine oJ 12 #[oI 3,oI 1,oI 2,oR b4,oI 1,oR b5,oU] [vR b7,vR b5] st7 ?_
  obtain ⟨T8,X8,e8,st8⟩:=castY X7 hx hZ hown (ow45 hw) e7 (Ins.self EA7) (g:=(mkF m 12 #[oI 3,oI 1,oI 2,oR b4,oI 1,oR b5,oU] [vR b7,vR b5])) rfl rfl (hb hby d6_12)
  refine oJ 15 #[oI 3,oI 1,oI 2,oR b4,oI 1,oR b5,oU] [vR b7,vR b5] st8 ?_
  refine own_cI X8 hx hZ hown e8 (ow47 hw) (ow48 hw) (mvT hZ (ow49 hw)) (ow50 hw) (ow51 hw) (ow52 hw) (ow53 hw) (ow54 hw) (ow13 hw) (ow55 hw) (PE9.ext E7) (y:=mn8) (z:=mn7) (argsL:=[vR b7]) (rest:=[]) (W:=0) hml.symm (hb hby d6_15) (lenOf pd13 rfl) rfl (by decide) (rm7a23 l Z a0 hw [] b5 b7 b6a k6b b6c h7 n0 (oT Z0 E7.1) (PE9.ext E7) (PF10.ext E7) (PF11.ext E7) (PF12.ext E7) (PV15.ext E7) EA7 ov_b6a ne_b5_b6a ne_b6a_b5 n_b5 n_b6a) fun _ T16 _ X16 hQ16=>?_
  obtain ⟨rfl,N16q,K16,g16_0,g16_1,g16_2,g16_3⟩:=hQ16
  have N16:=Fr.app N0 N16q
  have eK16:T16.heap = T16.heap:=rfl
  have KK16:Keep h0 T16.heap [b6a,b5]:=Keep.trans K7 K16 (allS oI1 (allS oI0 all0))
  obtain ⟨_,X16,N16⟩:=own_hide X16 N16
  refine oV 20 #[oI 3,oI 1,oI 2,oR b4,oI 1,oR b5,oU] [vI 1] ?_
  refine oG X16 tt 2 66 #[oI 3,oI 1,oI 2,oR b4,oI 1,oR b5,oU] [] rfl ?_
  refine own_ret X16 (v:=none) (fun _=>rfl) Bs (fun fs hr=>X16.returnOut hx Br (hb hby d6_66) hr) ?_ (by decide) (by decide)
  unfold Q6a72
  have G17:=(V_b7.keep K16 (ninS (oM PE9.lt sz_b7) (ninS (oM PV15.lt sz_b7) nin0)))
  rw [eK16]
  exact ⟨b7,rfl,N16,KK16,n_b7,sz_b7,g16_3,g16_0,g16_1,g16_2,G17,(EA7.keep K16)⟩
def Q6a73 (Z:State)(b3 b4a:Addr)(k5 k4b:ClassId)(b4c b6a:Addr)(h0:Heap)(n0:Nat)(v:Option Value)(h:Heap)(L:List Loc):Prop:=∃ (b7:Addr),v = none∧Fr n0 L∧Keep h0 h [b4a,b3]∧n0≤b7∧h0.size≤b7∧Arv Z h b4a k4b (.object oOb) 10 [vR b4c,vR b6a,vR b7,.null,.null,.null,.null,.null,.null,.null] .null∧oF0 Z h b3 (vI 3)∧oF1 Z h b3 (vR b4a)∧oF2 Z h b3 (vI 3)∧Arv Z h b7 k5 .int 1 [vI 2] (vI 0)∧Exa Z h b7 "[I"
set_option maxRecDepth 65536 in
set_option maxHeartbeats 40000000 in
theorem rm6a73 (l:Launch)(Z:State)(a0:Array Value)(hw:HW a0 Z)(ws:List Jvm.Cond)(b4 b5 b6a:Addr)(k4 k6b:ClassId)(b6c b7a:Addr)(h0:Heap)(n0:Nat)(Z0:n0≤h0.size)(PE9:Exa Z h0 b5 "java/util/ArrayList")(PF10:oF0 Z h0 b5 (vI 2))(PF11:oF1 Z h0 b5 (vR b6a))(PF12:oF2 Z h0 b5 (vI 2))(PV13:Arv Z h0 b4 k4 .int 1 [vI 2] (vI 0))(PE14:Exa Z h0 b4 "[I")(PV15:Arv Z h0 b6a k6b (.object oOb) 10 [vR b6c,vR b7a,.null,.null,.null,.null,.null,.null,.null,.null] .null)(ov_b6a:Ovr Z k6b oOb)(ne_b5_b6a:b5≠b6a)(ne_b6a_b5:b6a≠b5)(n_b5:n0≤b5)(n_b6a:n0≤b6a) :
    own_Met l mn9 prog_28_method_10_code 7 none ws (oRm 2 1 1 28) #[vI 3,vI 1,vI 3,vR b4,vI 1,vR b5] Z h0 (Q6a73 Z b5 b6a k4 k6b b6c b7a h0 n0):=by
  refine own_met (own:=oLy) rfl (plainFor_of_name pn_0) ?_
  intro p e s m below meth c s₁ hx hby hml hZ hown hnm X0 e0 Br Bs
  have N0:=Fr.nil n0
  have tt:=own_tt hx hby own_ok6
  refine oV 0 #[oI 3,oI 1,oI 3,oR b4,oI 1,oR b5,oU] [] ?_
  refine oG X0 tt 5 9 #[oI 3,oI 1,oI 3,oR b4,oI 1,oR b5,oU] [vR b4,vR b5] rfl ?_
  obtain ⟨T8,h8,X8,e8,E8,A8,EA8,st8⟩:=cloneH X0 hx hZ hown (ow38 hw) (ow39 hw) (ow43 hw) (ow41 hw) (ow42 hw) (ow44 hw) e0 (hs:=[]) PV13 PE14 (g:=(mkF m 9 #[oI 3,oI 1,oI 3,oR b4,oI 1,oR b5,oU] [vR b4,vR b5])) rfl hml.symm rfl (hb hby d6_9) (by decide) (W:=1) (cap:=1) (oZ rfl) (by decide) (by decide) (by decide) (by decide)
  obtain ⟨b8,g_b8⟩:∃ z,z = h0.size:=⟨_,rfl⟩
  have sg_b8:h0.size≤b8:=Nat.le_of_eq g_b8.symm
  rw [← g_b8] at A8 EA8 st8
  have n_b8:=oT Z0 sg_b8
  have sz_b8:=oT (Keep.refl h0 [b6a,b5]).1 sg_b8
  have K8:Keep h0 h8 [b6a,b5]:=(Keep.refl h0 [b6a,b5]).ext E8
  have V_b8:Arv Z h8 b8 k4 .int 1 [vI 2] (vI 0):=A8
  refine oJ 12 #[oI 3,oI 1,oI 3,oR b4,oI 1,oR b5,oU] [vR b8,vR b5] st8 ?_
  obtain ⟨T16,X16,e16,st16⟩:=castY X8 hx hZ hown (ow45 hw) e8 (Ins.self EA8) (g:=(mkF m 12 #[oI 3,oI 1,oI 3,oR b4,oI 1,oR b5,oU] [vR b8,vR b5])) rfl rfl (hb hby d6_12)
  refine oJ 15 #[oI 3,oI 1,oI 3,oR b4,oI 1,oR b5,oU] [vR b8,vR b5] st16 ?_
  refine own_cI X16 hx hZ hown e16 (ow47 hw) (ow48 hw) (mvT hZ (ow49 hw)) (ow50 hw) (ow51 hw) (ow52 hw) (ow53 hw) (ow54 hw) (ow13 hw) (ow55 hw) (PE9.ext E8) (y:=mn8) (z:=mn7) (argsL:=[vR b8]) (rest:=[]) (W:=0) hml.symm (hb hby d6_15) (lenOf pd13 rfl) rfl (by decide) (rm7a46 l Z a0 hw [] b5 b8 b6a k6b b6c b7a h8 n0 (oT Z0 E8.1) (PE9.ext E8) (PF10.ext E8) (PF11.ext E8) (PF12.ext E8) (PV15.ext E8) EA8 ov_b6a ne_b5_b6a ne_b6a_b5 n_b5 n_b6a) fun _ T17 _ X17 hQ17=>?_
  obtain ⟨rfl,N17q,K17,g17_0,g17_1,g17_2,g17_3⟩:=hQ17
  have N17:=Fr.app N0 N17q
  have eK17:T17.heap = T17.heap:=rfl
  have KK17:Keep h0 T17.heap [b6a,b5]:=Keep.trans K8 K17 (allS oI1 (allS oI0 all0))
  obtain ⟨_,X17,N17⟩:=own_hide X17 N17
  refine oV 20 #[oI 3,oI 1,oI 3,oR b4,oI 1,oR b5,oU] [vI 1] ?_
  refine oG X17 tt 2 66 #[oI 3,oI 1,oI 3,oR b4,oI 1,oR b5,oU] [] rfl ?_
  refine own_ret X17 (v:=none) (fun _=>rfl) Bs (fun fs hr=>X17.returnOut hx Br (hb hby d6_66) hr) ?_ (by decide) (by decide)
  unfold Q6a73
  have G18:=(V_b8.keep K17 (ninS (oM PE9.lt sz_b8) (ninS (oM PV15.lt sz_b8) nin0)))
  rw [eK17]
  exact ⟨b8,rfl,N17,KK17,n_b8,sz_b8,g17_3,g17_0,g17_1,g17_2,G18,(EA8.keep K17)⟩
def Q6a70 (Z:State)(b3 b4:Addr)(k3:ClassId)(h0:Heap)(n0:Nat)(v:Option Value)(h:Heap)(L:List Loc):Prop:=∃ (b5a:Addr)(k5b:ClassId)(b5c b6a b7a:Addr),v = none∧Fr n0 L∧Keep h0 h [b3,b4]∧n0≤b5a∧h0.size≤b5a∧n0≤b5c∧h0.size≤b5c∧n0≤b6a∧h0.size≤b6a∧n0≤b7a∧h0.size≤b7a∧b5c≠b5a∧b6a≠b5a∧b6a≠b5c∧b7a≠b5a∧b7a≠b5c∧b7a≠b6a∧Arv Z h b3 k3 .int 1 [vI 2] (vI 0)∧oF0 Z h b4 (vI 3)∧oF1 Z h b4 (vR b5a)∧oF2 Z h b4 (vI 3)∧Arv Z h b5a k5b (.object oOb) 10 [vR b5c,vR b6a,vR b7a,.null,.null,.null,.null,.null,.null,.null] .null∧Ovr Z k5b oOb∧Arv Z h b5c k3 .int 1 [vI 0] (vI 0)∧Exa Z h b5c "[I"∧Arv Z h b6a k3 .int 1 [vI 1] (vI 0)∧Exa Z h b6a "[I"∧Arv Z h b7a k3 .int 1 [vI 2] (vI 0)∧Exa Z h b7a "[I"
set_option maxRecDepth 65536 in
set_option maxHeartbeats 40000000 in
theorem rm6a70 (l:Launch)(Z:State)(a0:Array Value)(hw:HW a0 Z)(ws:List Jvm.Cond)(b7 b8 wd:Addr)(kd k7:ClassId)(h0:Heap)(n0:Nat)(Z0:n0≤h0.size)(PS0:Sta Z h0 "java/util/ArrayList" "DEFAULTCAPACITY_EMPTY_ELEMENTDATA" "[Ljava/lang/Object;" (vR wd))(PV1:Arv Z h0 wd kd (.object oOb) 0 [] .null)(PE9:Exa Z h0 b8 "java/util/ArrayList")(PF10:oF0 Z h0 b8 (vI 0))(PF11:oF1 Z h0 b8 (vR wd))(PF12:oF2 Z h0 b8 (vI 0))(PV13:Arv Z h0 b7 k7 .int 1 [vI 0] (vI 0))(PE14:Exa Z h0 b7 "[I")(ne_wd_b8:wd≠b8)(ne_wd_b7:wd≠b7)(ne_b8_b7:b8≠b7)(ne_b7_b8:b7≠b8)(n_b7:n0≤b7)(n_b8:n0≤b8) :
    own_Met l mn9 prog_28_method_10_code 7 none ws (oRm 6 4 13 87) #[vI 3,vI 1,vI 0,vR b7,vI 0,vR b8] Z h0 (Q6a70 Z b7 b8 k7 h0 n0):=by
  refine own_met (own:=oLy) rfl (plainFor_of_name pn_0) ?_
  intro p e s m below meth c s₁ hx hby hml hZ hown hnm X0 e0 Br Bs
  have N0:=Fr.nil n0
  have tt:=own_tt hx hby own_ok6
  refine oV 0 #[oI 3,oI 1,oI 0,oR b7,oI 0,oR b8,oU] [] ?_
  refine oG X0 tt 15 43 #[oI 3,oI 1,oI 0,oR b7,oI 0,oR b8,oI 0] [vI 0,vI 0,vR b7] rfl ?_
  obtain ⟨T15,h15,X15,e15,W15,V15,st15⟩:=own_stI X0 hx hZ e0 PV13 (j:=(0:Int32)) ⟨by decide,by decide⟩ 0 rfl (Nat.le_of_ble_eq_true rfl) (g:=(mkF m 43 #[oI 3,oI 1,oI 0,oR b7,oI 0,oR b8,oI 0] [vI 0,vI 0,vR b7])) rfl rfl (hb hby d6_43)
  have K15:Keep h0 h15 [b7,b8]:=(Keep.refl h0 [b7,b8]).wr W15 oI0
  have V15s:Arv Z h15 b7 k7 .int 1 [vI 0] (vI 0):=V15
  have N15:=Fr.snoc X15 N0 n_b7
  refine oH st15 X15 tt 10 57 #[oI 3,oI 1,oI 0,oR b7,oI 0,oR b8,oI 0] [vR b8,vI 1,vR b7,vI 1,vI 1,vI 3] rfl ?_
  refine own_cS X15 hx hZ hown e15 (ow35 hw) (ow36 hw) (ow3 hw) (ow37 hw) (y:=mn9) (argsL:=[vI 3,vI 1,vI 1,vR b7,vI 1,vR b8]) (rest:=[]) (W:=0) hml.symm (hb hby d6_57) (lenOf pd9 rfl) rfl (by decide) (rm6a71 l Z a0 hw [] b7 b8 wd kd k7 h15 n0 (oT Z0 (Keep.of_wr W15).1) (PS0.wr W15) (PV1.other W15 ne_wd_b7) (PE9.wr W15) (PF10.other W15 (Or.inl ne_b8_b7)) (PF11.other W15 (Or.inl ne_b8_b7)) (PF12.other W15 (Or.inl ne_b8_b7)) V15s (PE14.wr W15) ne_wd_b8 n_b8) fun _ T16 _ X16 hQ16=>?_
  obtain ⟨b16a,k16b,b16c,rfl,N16q,K16,n_b16a,sg_b16a,n_b16c,sg_b16c,ne16_0,g16_0,g16_1,g16_2,g16_3,g16_4,g16_5,g16_6⟩:=hQ16
  have N16:=Fr.app N15 N16q
  have sz_b16a:=oT K15.1 sg_b16a
  have sz_b16c:=oT K15.1 sg_b16c
  have eK16:T16.heap = T16.heap:=rfl
  have KK16:Keep h0 T16.heap [b7,b8]:=Keep.trans K15 K16 (allS oI1 all0)
  obtain ⟨_,X16,N16⟩:=own_hide X16 N16
  refine oV 60 #[oI 3,oI 1,oI 0,oR b7,oI 0,oR b8,oI 0] [] ?_
  refine oG X16 tt 12 43 #[oI 3,oI 1,oI 0,oR b7,oI 0,oR b8,oI 1] [vI 1,vI 0,vR b7] rfl ?_
  obtain ⟨T17,h17,X17,e17,W17,V17,st17⟩:=own_stI X16 hx hZ eK16 (V15s.keep K16 (ninS ne_b7_b8 nin0)) (j:=(0:Int32)) ⟨by decide,by decide⟩ 0 rfl (Nat.le_of_ble_eq_true rfl) (g:=(mkF m 43 #[oI 3,oI 1,oI 0,oR b7,oI 0,oR b8,oI 1] [vI 1,vI 0,vR b7])) rfl rfl (hb hby d6_43)
  have K17:Keep h0 h17 [b7,b8]:=KK16.wr W17 oI0
  have V17s:Arv Z h17 b7 k7 .int 1 [vI 1] (vI 0):=V17
  have N17:=Fr.snoc X17 N16 n_b7
  refine oH st17 X17 tt 10 57 #[oI 3,oI 1,oI 0,oR b7,oI 0,oR b8,oI 1] [vR b8,vI 1,vR b7,vI 2,vI 1,vI 3] rfl ?_
  refine own_cS X17 hx hZ hown e17 (ow35 hw) (ow36 hw) (ow3 hw) (ow37 hw) (y:=mn9) (argsL:=[vI 3,vI 1,vI 2,vR b7,vI 1,vR b8]) (rest:=[]) (W:=0) hml.symm (hb hby d6_57) (lenOf pd9 rfl) rfl (by decide) (rm6a72 l Z a0 hw [] b7 b8 b16a k7 k16b b16c h17 n0 (oT (oT (oT Z0 (Keep.of_wr W15).1) K16.1) (Keep.of_wr W17).1) (((PE9.wr W15).keep K16).wr W17) (g16_0.other W17 (Or.inl ne_b8_b7)) (g16_1.other W17 (Or.inl ne_b8_b7)) (g16_2.other W17 (Or.inl ne_b8_b7)) V17s (((PE14.wr W15).keep K16).wr W17) (g16_3.other W17 (oM PV13.lt sz_b16a)) g16_4 (oL PE9.lt sz_b16a) (oM PE9.lt sz_b16a) n_b8 n_b16a) fun _ T18 _ X18 hQ18=>?_
  obtain ⟨b18a,rfl,N18q,K18,n_b18a,sg_b18a,g18_0,g18_1,g18_2,g18_3,g18_4,g18_5⟩:=hQ18
  have N18:=Fr.app N17 N18q
  have sz_b18a:=oT K17.1 sg_b18a
  have u19:=(oW g16_3.lt (Keep.of_wr W17).1)
  have u20:=(oW g16_5.lt (Keep.of_wr W17).1)
  have m21:h15.size≤h17.size:=(oT (oT (Nat.le_refl _) K16.1) (Keep.of_wr W17).1)
  have eK18:T18.heap = T18.heap:=rfl
  have KK18:Keep h0 T18.heap [b7,b8]:=Keep.trans K17 K18 (allS (Or.inr sz_b16a) (allS oI1 all0))
  obtain ⟨_,X18,N18⟩:=own_hide X18 N18
  refine oV 60 #[oI 3,oI 1,oI 0,oR b7,oI 0,oR b8,oI 1] [] ?_
  refine oG X18 tt 12 43 #[oI 3,oI 1,oI 0,oR b7,oI 0,oR b8,oI 2] [vI 2,vI 0,vR b7] rfl ?_
  have G22:=(V17s.keep K18 (ninS (oL PV13.lt sz_b16a) (ninS ne_b7_b8 nin0)))
  obtain ⟨T23,h23,X23,e23,W23,V23,st23⟩:=own_stI X18 hx hZ eK18 G22 (j:=(0:Int32)) ⟨by decide,by decide⟩ 0 rfl (Nat.le_of_ble_eq_true rfl) (g:=(mkF m 43 #[oI 3,oI 1,oI 0,oR b7,oI 0,oR b8,oI 2] [vI 2,vI 0,vR b7])) rfl rfl (hb hby d6_43)
  have K23:Keep h0 h23 [b7,b8]:=KK18.wr W23 oI0
  have V23s:Arv Z h23 b7 k7 .int 1 [vI 2] (vI 0):=V23
  have N23:=Fr.snoc X23 N18 n_b7
  refine oH st23 X23 tt 10 57 #[oI 3,oI 1,oI 0,oR b7,oI 0,oR b8,oI 2] [vR b8,vI 1,vR b7,vI 3,vI 1,vI 3] rfl ?_
  have G24:=(((((PE9.wr W15).keep K16).wr W17).keep K18).wr W23)
  have G25:=(((((PE14.wr W15).keep K16).wr W17).keep K18).wr W23)
  have Zs26:n0≤h23.size:=(oT (oT (oT (oT (oT Z0 (Keep.of_wr W15).1) K16.1) (Keep.of_wr W17).1) K18.1) (Keep.of_wr W23).1)
  refine own_cS X23 hx hZ hown e23 (ow35 hw) (ow36 hw) (ow3 hw) (ow37 hw) (y:=mn9) (argsL:=[vI 3,vI 1,vI 3,vR b7,vI 1,vR b8]) (rest:=[]) (W:=0) hml.symm (hb hby d6_57) (lenOf pd9 rfl) rfl (by decide) (rm6a73 l Z a0 hw [] b7 b8 b16a k7 k16b b16c b18a h23 n0 Zs26 G24 (g18_1.other W23 (Or.inl ne_b8_b7)) (g18_2.other W23 (Or.inl ne_b8_b7)) (g18_3.other W23 (Or.inl ne_b8_b7)) V23s G25 (g18_0.other W23 (oM PV13.lt sz_b16a)) g16_4 (oL PE9.lt sz_b16a) (oM PE9.lt sz_b16a) n_b8 n_b16a) fun _ T27 _ X27 hQ27=>?_
  obtain ⟨b27a,rfl,N27q,K27,n_b27a,sg_b27a,g27_0,g27_1,g27_2,g27_3,g27_4,g27_5⟩:=hQ27
  have N27:=Fr.app N23 N27q
  have sz_b27a:=oT K23.1 sg_b27a
  have u28:=(oW g18_4.lt (Keep.of_wr W23).1)
  have m29:h17.size≤h23.size:=(oT (oT (Nat.le_refl _) K18.1) (Keep.of_wr W23).1)
  have eK27:T27.heap = T27.heap:=rfl
  have KK27:Keep h0 T27.heap [b7,b8]:=Keep.trans K23 K27 (allS (Or.inr sz_b16a) (allS oI1 all0))
  obtain ⟨_,X27,N27⟩:=own_hide X27 N27
  refine oV 60 #[oI 3,oI 1,oI 0,oR b7,oI 0,oR b8,oI 2] [] ?_
  refine oG X27 tt 9 66 #[oI 3,oI 1,oI 0,oR b7,oI 0,oR b8,oI 3] [] rfl ?_
  refine own_ret X27 (v:=none) (fun _=>rfl) Bs (fun fs hr=>X27.returnOut hx Br (hb hby d6_66) hr) ?_ (by decide) (by decide)
  unfold Q6a70
  have q30:=oM u19 (oT m29 sg_b27a)
  have q31:=oM u20 (oT m29 sg_b27a)
  have G32:=(V23s.keep K27 (ninS (oL PV13.lt sz_b16a) (ninS ne_b7_b8 nin0)))
  have G33:=((((g16_5.other W17 (oM PV13.lt sz_b16c)).keep K18 (ninS ne16_0 (ninS (oM PE9.lt sz_b16c) nin0))).other W23 (oM PV13.lt sz_b16c)).keep K27 (ninS ne16_0 (ninS (oM PE9.lt sz_b16c) nin0)))
  have G34:=((g18_4.other W23 (oM PV13.lt sz_b18a)).keep K27 (ninS (oM u19 sg_b18a) (ninS (oM PE9.lt sz_b18a) nin0)))
  rw [eK27]
  exact ⟨b16a,k16b,b16c,b18a,b27a,rfl,N27,KK27,n_b16a,sz_b16a,n_b16c,sz_b16c,n_b18a,sz_b18a,n_b27a,sz_b27a,ne16_0,(oM u19 sg_b18a),(oM u20 sg_b18a),q30,q31,(oM u28 sg_b27a),G32,g27_1,g27_2,g27_3,g27_0,g16_4,G33,((((g16_6.wr W17).keep K18).wr W23).keep K27),G34,((g18_5.wr W23).keep K27),g27_4,g27_5⟩
def Q19a74 (Z:State)  (h0:Heap)(n0:Nat)(v:Option Value)(h:Heap)(L:List Loc):Prop:=v = some (.long (-4398046511104:Int64))∧Fr n0 L∧h = h0
set_option maxRecDepth 65536 in
set_option maxHeartbeats 40000000 in
theorem rm19a74 (l:Launch)(Z:State)(a0:Array Value)(hw:HW a0 Z)(ws:List Jvm.Cond)(b6 b7 b8 b9:Addr)(k7:ClassId)(x7a x7b x7c:Addr)(kc7 k8:ClassId)(x8a x8b x8c:Addr)(kc8 k9:ClassId)(h0:Heap)(n0:Nat)(Z0:n0≤h0.size)(PF3:oF3 Z h0 b6 (vR b7))(PF4:oF4 Z h0 b6 (vR b8))(PF5:oF5 Z h0 b6 (vR b9))(PV22:Arv Z h0 b7 k7 (.array .int) 3 [vR x7a,vR x7b,vR x7c] .null)(PV24:Arv Z h0 x7a kc7 .int 3 [vI 42,vI 21,vI 0] (vI 0))(PV30:Arv Z h0 b8 k8 (.array .int) 3 [vR x8a,vR x8b,vR x8c] .null)(PV32:Arv Z h0 x8a kc8 .int 3 [vI 22,vI 21,vI 21] (vI 0))(PV38:Arv Z h0 b9 k9 .int 3 [vI 22,vI 21,vI 21] (vI 0)) :
    own_Met l mn20 prog_28_method_8_code 6 (some .long) ws (oRm 0 0 0 0) #[vR b6,vI 0] Z h0 (Q19a74 Z  h0 n0):=by
  refine own_met (own:=oLy) rfl (plainFor_of_name pn_0) ?_
  intro p e s m below meth c s₁ hx hby hml hZ hown hnm X0 e0 Br Bs
  have N0:=Fr.nil n0
  have tt:=own_tt hx hby own_ok19
  refine oV 0 #[oR b6,oI 0,oU,oU,oU,oU] [] ?_
  refine oX2 a0 [b7,b8,b9,b6,x7a,x7b,x7c,x8a,x8b,x8c] [k7,k8,k9,0,kc7,0,0,kc8,0,0] [fE19_32 3 (vR 2),fE19_29 3 (vR 1),fE19_26 3 (vR 0)] [(86,(-1))] [] [2,1,7,0,4] 10 [oR 3,oI 0,oU,oU,oU,oU] [] [(2,.int,3,[vI 22,vI 21,vI 21]),(1,(.array .int),3,[vR 7,vR 8,vR 9]),(7,.int,3,[vI 22,vI 21,vI 21]),(0,(.array .int),3,[vR 4,vR 5,vR 6]),(4,.int,3,[vI 42,vI 21,vI 0])] 68 [oR 3,oI 0,oQ (-4398046511104),oS,oI 0,oI 1] [.long (-4398046511104)] [] tt hZ hown X0 N0 e0 (oA (ow96 hw) (oA (ow94 hw) (oA (ow92 hw) trivial))) (oA (ow131 hw) trivial) (oA PF5 (oA PF4 (oA PF3 trivial))) (oA PV38 (oA PV30 (oA PV32 (oA PV22 (oA PV24 trivial))))) (Or.inl rfl) trivial rfl rfl (by decide +kernel) 45 (by decide +kernel) fun T10 h10 _ X10 N10 e10 K10 q10 M10=>?_
  have e10:=e10.trans (q10 rfl)
  refine oV 68 #[oR b6,oI 0,oQ (-4398046511104:Int64),oS,oI 0,oI 1] [(.long (-4398046511104:Int64))] ?_
  refine own_ret X10 (v:=some (.long (-4398046511104:Int64))) (oN Br) Bs (fun fs hr=>own_retL X10 hx Br (hb hby d19_68) hr) ?_ (by decide) (by decide)
  unfold Q19a74
  exact ⟨rfl,N10,e10⟩
def Q17a75 (Z:State)(j3:Int64)(h0:Heap)(n0:Nat)(v:Option Value)(h:Heap)(L:List Loc):Prop:=v = some (.long (kf (kf (kf 0 j3 21 21) j3 42 22) j3 0 21))∧Fr n0 L∧h = h0
set_option maxRecDepth 65536 in
set_option maxHeartbeats 40000000 in
theorem rm17a75 (l:Launch)(Z:State)(a0:Array Value)(hw:HW a0 Z)(ws:List Jvm.Cond)(b5:Addr)(j6:Int64)(b7 b8:Addr)(k7:ClassId)(x7a x7b x7c:Addr)(kc7 k8:ClassId)(x8a x8b x8c:Addr)(kc8:ClassId)(h0:Heap)(n0:Nat)(Z0:n0≤h0.size)(PF3:oF3 Z h0 b5 (vR b7))(PF4:oF4 Z h0 b5 (vR b8))(PV22:Arv Z h0 b7 k7 (.array .int) 3 [vR x7a,vR x7b,vR x7c] .null)(PV26:Arv Z h0 x7b kc7 .int 3 [vI 21,vI 42,vI 0] (vI 0))(PV30:Arv Z h0 b8 k8 (.array .int) 3 [vR x8a,vR x8b,vR x8c] .null)(PV34:Arv Z h0 x8b kc8 .int 3 [vI 21,vI 22,vI 21] (vI 0)) :
    own_Met l mn18 prog_28_method_6_code 9 (some .long) ws (oRm 0 0 0 0) #[vR b5,vI 1,(.long j6)] Z h0 (Q17a75 Z j6 h0 n0):=by
  refine own_met (own:=oLy) rfl (plainFor_of_name pn_0) ?_
  intro p e s m below meth c s₁ hx hby hml hZ hown hnm X0 e0 Br Bs
  have N0:=Fr.nil n0
  have tt:=own_tt hx hby own_ok17
  refine oV 0 #[oR b5,oI 1,oQ j6,oS,oU,oU,oU,oU,oU] [] ?_
  refine oX3 a0 [b7,b8,b5,x7a,x7b,x7c,x8a,x8b,x8c] [k7,k8,0,0,kc7,0,0,kc8,0] [fE17_29 2 (vR 1),fE17_26 2 (vR 0)] [(86,(-1))] [] [1,7,0,4] 9 [oR 2,oI 1,oQ j6,oS,oU,oU,oU,oU,oU] [] [(1,(.array .int),3,[vR 6,vR 7,vR 8]),(7,.int,3,[vI 21,vI 22,vI 21]),(0,(.array .int),3,[vR 3,vR 4,vR 5]),(4,.int,3,[vI 21,vI 42,vI 0])] 73 [oR 2,oI 1,oQ j6,oS,oQ (kf (kf (kf 0 j6 21 21) j6 42 22) j6 0 21),oS,oI 3,oQ (kg j6 0 21),oS] [.long (kf (kf (kf 0 j6 21 21) j6 42 22) j6 0 21)] [] tt hZ hown X0 N0 e0 (oA (ow94 hw) (oA (ow92 hw) trivial)) (oA (ow131 hw) trivial) (oA PF4 (oA PF3 trivial)) (oA PV30 (oA PV34 (oA PV22 (oA PV26 trivial)))) (Or.inl rfl) trivial rfl rfl (by decide +kernel) _ (oC 11 18 [oR 2,oI 1,oQ j6,oS,oQ 0,oS,oI 0,oU,oU] [] rfl (oC 10 34 [oR 2,oI 1,oQ j6,oS,oQ 0,oS,oI 0,oU,oU] [vI 64,.long (-1),.long (kh j6 21)] rfl (oC 10 48 [oR 2,oI 1,oQ j6,oS,oQ 0,oS,oI 0,oQ (kg j6 21 21),oS] [] rfl (oC 11 65 [oR 2,oI 1,oQ j6,oS,oQ (kf 0 j6 21 21),oS,oI 0,oQ (kg j6 21 21),oS] [] rfl (oC 9 18 [oR 2,oI 1,oQ j6,oS,oQ (kf 0 j6 21 21),oS,oI 1,oQ (kg j6 21 21),oS] [] rfl (oC 10 34 [oR 2,oI 1,oQ j6,oS,oQ (kf 0 j6 21 21),oS,oI 1,oQ (kg j6 21 21),oS] [vI 64,.long (-1),.long (kh j6 42)] rfl (oC 10 48 [oR 2,oI 1,oQ j6,oS,oQ (kf 0 j6 21 21),oS,oI 1,oQ (kg j6 42 22),oS] [] rfl (oC 11 65 [oR 2,oI 1,oQ j6,oS,oQ (kf (kf 0 j6 21 21) j6 42 22),oS,oI 1,oQ (kg j6 42 22),oS] [] rfl (oC 9 18 [oR 2,oI 1,oQ j6,oS,oQ (kf (kf 0 j6 21 21) j6 42 22),oS,oI 2,oQ (kg j6 42 22),oS] [] rfl (oC 10 34 [oR 2,oI 1,oQ j6,oS,oQ (kf (kf 0 j6 21 21) j6 42 22),oS,oI 2,oQ (kg j6 42 22),oS] [vI 64,.long (-1),.long (kh j6 0)] rfl (oC 10 48 [oR 2,oI 1,oQ j6,oS,oQ (kf (kf 0 j6 21 21) j6 42 22),oS,oI 2,oQ (kg j6 0 21),oS] [] rfl (oC 11 65 [oR 2,oI 1,oQ j6,oS,oQ (kf (kf (kf 0 j6 21 21) j6 42 22) j6 0 21),oS,oI 2,oQ (kg j6 0 21),oS] [] (n2:=10) rfl rfl)))))))))))) fun T9 h9 _ X9 N9 e9 K9 q9 M9=>?_
  have e9:=e9.trans (q9 rfl)
  refine oV 73 #[oR b5,oI 1,oQ j6,oS,oQ (kf (kf (kf 0 j6 21 21) j6 42 22) j6 0 21),oS,oI 3,oQ (kg j6 0 21),oS] [(.long (kf (kf (kf 0 j6 21 21) j6 42 22) j6 0 21))] ?_
  refine own_ret X9 (v:=some (.long (kf (kf (kf 0 j6 21 21) j6 42 22) j6 0 21))) (oN Br) Bs (fun fs hr=>own_retL X9 hx Br (hb hby d17_73) hr) ?_ (by decide) (by decide)
  unfold Q17a75
  exact ⟨rfl,N9,e9⟩
def Q17a76 (Z:State)(j3:Int64)(h0:Heap)(n0:Nat)(v:Option Value)(h:Heap)(L:List Loc):Prop:=v = some (.long (kf (kf (kf 0 j3 0 21) j3 42 22) j3 21 21))∧Fr n0 L∧h = h0
set_option maxRecDepth 65536 in
set_option maxHeartbeats 40000000 in
theorem rm17a76 (l:Launch)(Z:State)(a0:Array Value)(hw:HW a0 Z)(ws:List Jvm.Cond)(b5:Addr)(j6:Int64)(b7 b8:Addr)(k7:ClassId)(x7a x7b x7c:Addr)(kc7 k8:ClassId)(x8a x8b x8c:Addr)(kc8:ClassId)(h0:Heap)(n0:Nat)(Z0:n0≤h0.size)(PF3:oF3 Z h0 b5 (vR b7))(PF4:oF4 Z h0 b5 (vR b8))(PV22:Arv Z h0 b7 k7 (.array .int) 3 [vR x7a,vR x7b,vR x7c] .null)(PV28:Arv Z h0 x7c kc7 .int 3 [vI 0,vI 42,vI 21] (vI 0))(PV30:Arv Z h0 b8 k8 (.array .int) 3 [vR x8a,vR x8b,vR x8c] .null)(PV36:Arv Z h0 x8c kc8 .int 3 [vI 21,vI 22,vI 21] (vI 0)) :
    own_Met l mn18 prog_28_method_6_code 9 (some .long) ws (oRm 0 0 0 0) #[vR b5,vI 2,(.long j6)] Z h0 (Q17a76 Z j6 h0 n0):=by
  refine own_met (own:=oLy) rfl (plainFor_of_name pn_0) ?_
  intro p e s m below meth c s₁ hx hby hml hZ hown hnm X0 e0 Br Bs
  have N0:=Fr.nil n0
  have tt:=own_tt hx hby own_ok17
  refine oV 0 #[oR b5,oI 2,oQ j6,oS,oU,oU,oU,oU,oU] [] ?_
  refine oX3 a0 [b7,b8,b5,x7a,x7b,x7c,x8a,x8b,x8c] [k7,k8,0,0,0,kc7,0,0,kc8] [fE17_29 2 (vR 1),fE17_26 2 (vR 0)] [(86,(-1))] [] [1,8,0,5] 9 [oR 2,oI 2,oQ j6,oS,oU,oU,oU,oU,oU] [] [(1,(.array .int),3,[vR 6,vR 7,vR 8]),(8,.int,3,[vI 21,vI 22,vI 21]),(0,(.array .int),3,[vR 3,vR 4,vR 5]),(5,.int,3,[vI 0,vI 42,vI 21])] 73 [oR 2,oI 2,oQ j6,oS,oQ (kf (kf (kf 0 j6 0 21) j6 42 22) j6 21 21),oS,oI 3,oQ (kg j6 21 21),oS] [.long (kf (kf (kf 0 j6 0 21) j6 42 22) j6 21 21)] [] tt hZ hown X0 N0 e0 (oA (ow94 hw) (oA (ow92 hw) trivial)) (oA (ow131 hw) trivial) (oA PF4 (oA PF3 trivial)) (oA PV30 (oA PV36 (oA PV22 (oA PV28 trivial)))) (Or.inl rfl) trivial rfl rfl (by decide +kernel) _ (oC 11 18 [oR 2,oI 2,oQ j6,oS,oQ 0,oS,oI 0,oU,oU] [] rfl (oC 10 34 [oR 2,oI 2,oQ j6,oS,oQ 0,oS,oI 0,oU,oU] [vI 64,.long (-1),.long (kh j6 0)] rfl (oC 10 48 [oR 2,oI 2,oQ j6,oS,oQ 0,oS,oI 0,oQ (kg j6 0 21),oS] [] rfl (oC 11 65 [oR 2,oI 2,oQ j6,oS,oQ (kf 0 j6 0 21),oS,oI 0,oQ (kg j6 0 21),oS] [] rfl (oC 9 18 [oR 2,oI 2,oQ j6,oS,oQ (kf 0 j6 0 21),oS,oI 1,oQ (kg j6 0 21),oS] [] rfl (oC 10 34 [oR 2,oI 2,oQ j6,oS,oQ (kf 0 j6 0 21),oS,oI 1,oQ (kg j6 0 21),oS] [vI 64,.long (-1),.long (kh j6 42)] rfl (oC 10 48 [oR 2,oI 2,oQ j6,oS,oQ (kf 0 j6 0 21),oS,oI 1,oQ (kg j6 42 22),oS] [] rfl (oC 11 65 [oR 2,oI 2,oQ j6,oS,oQ (kf (kf 0 j6 0 21) j6 42 22),oS,oI 1,oQ (kg j6 42 22),oS] [] rfl (oC 9 18 [oR 2,oI 2,oQ j6,oS,oQ (kf (kf 0 j6 0 21) j6 42 22),oS,oI 2,oQ (kg j6 42 22),oS] [] rfl (oC 10 34 [oR 2,oI 2,oQ j6,oS,oQ (kf (kf 0 j6 0 21) j6 42 22),oS,oI 2,oQ (kg j6 42 22),oS] [vI 64,.long (-1),.long (kh j6 21)] rfl (oC 10 48 [oR 2,oI 2,oQ j6,oS,oQ (kf (kf 0 j6 0 21) j6 42 22),oS,oI 2,oQ (kg j6 21 21),oS] [] rfl (oC 11 65 [oR 2,oI 2,oQ j6,oS,oQ (kf (kf (kf 0 j6 0 21) j6 42 22) j6 21 21),oS,oI 2,oQ (kg j6 21 21),oS] [] (n2:=10) rfl rfl)))))))))))) fun T9 h9 _ X9 N9 e9 K9 q9 M9=>?_
  have e9:=e9.trans (q9 rfl)
  refine oV 73 #[oR b5,oI 2,oQ j6,oS,oQ (kf (kf (kf 0 j6 0 21) j6 42 22) j6 21 21),oS,oI 3,oQ (kg j6 21 21),oS] [(.long (kf (kf (kf 0 j6 0 21) j6 42 22) j6 21 21))] ?_
  refine own_ret X9 (v:=some (.long (kf (kf (kf 0 j6 0 21) j6 42 22) j6 21 21))) (oN Br) Bs (fun fs hr=>own_retL X9 hx Br (hb hby d17_73) hr) ?_ (by decide) (by decide)
  unfold Q17a76
  exact ⟨rfl,N9,e9⟩
def Q19a77 (Z:State)  (h0:Heap)(n0:Nat)(v:Option Value)(h:Heap)(L:List Loc):Prop:=v = some (.long (4398044413952:Int64))∧Fr n0 L∧h = h0
set_option maxRecDepth 65536 in
set_option maxHeartbeats 40000000 in
theorem rm19a77 (l:Launch)(Z:State)(a0:Array Value)(hw:HW a0 Z)(ws:List Jvm.Cond)(b6 b7 b8 b9:Addr)(k7:ClassId)(x7a x7b x7c:Addr)(kc7 k8:ClassId)(x8a x8b x8c:Addr)(kc8 k9:ClassId)(h0:Heap)(n0:Nat)(Z0:n0≤h0.size)(PF3:oF3 Z h0 b6 (vR b7))(PF4:oF4 Z h0 b6 (vR b8))(PF5:oF5 Z h0 b6 (vR b9))(PV22:Arv Z h0 b7 k7 (.array .int) 3 [vR x7a,vR x7b,vR x7c] .null)(PV26:Arv Z h0 x7b kc7 .int 3 [vI 21,vI 42,vI 0] (vI 0))(PV30:Arv Z h0 b8 k8 (.array .int) 3 [vR x8a,vR x8b,vR x8c] .null)(PV34:Arv Z h0 x8b kc8 .int 3 [vI 21,vI 22,vI 21] (vI 0))(PV38:Arv Z h0 b9 k9 .int 3 [vI 22,vI 21,vI 21] (vI 0)) :
    own_Met l mn20 prog_28_method_8_code 6 (some .long) ws (oRm 0 0 0 0) #[vR b6,vI 1] Z h0 (Q19a77 Z  h0 n0):=by
  refine own_met (own:=oLy) rfl (plainFor_of_name pn_0) ?_
  intro p e s m below meth c s₁ hx hby hml hZ hown hnm X0 e0 Br Bs
  have N0:=Fr.nil n0
  have tt:=own_tt hx hby own_ok19
  refine oV 0 #[oR b6,oI 1,oU,oU,oU,oU] [] ?_
  refine oX2 a0 [b7,b8,b9,b6,x7a,x7b,x7c,x8a,x8b,x8c] [k7,k8,k9,0,0,kc7,0,0,kc8,0] [fE19_32 3 (vR 2),fE19_29 3 (vR 1),fE19_26 3 (vR 0)] [(86,(-1))] [] [2,1,8,0,5] 10 [oR 3,oI 1,oU,oU,oU,oU] [] [(2,.int,3,[vI 22,vI 21,vI 21]),(1,(.array .int),3,[vR 7,vR 8,vR 9]),(8,.int,3,[vI 21,vI 22,vI 21]),(0,(.array .int),3,[vR 4,vR 5,vR 6]),(5,.int,3,[vI 21,vI 42,vI 0])] 68 [oR 3,oI 1,oQ 4398044413952,oS,oI 0,oI 1] [.long 4398044413952] [] tt hZ hown X0 N0 e0 (oA (ow96 hw) (oA (ow94 hw) (oA (ow92 hw) trivial))) (oA (ow131 hw) trivial) (oA PF5 (oA PF4 (oA PF3 trivial))) (oA PV38 (oA PV30 (oA PV34 (oA PV22 (oA PV26 trivial))))) (Or.inl rfl) trivial rfl rfl (by decide +kernel) 45 (by decide +kernel) fun T10 h10 _ X10 N10 e10 K10 q10 M10=>?_
  have e10:=e10.trans (q10 rfl)
  refine oV 68 #[oR b6,oI 1,oQ (4398044413952:Int64),oS,oI 0,oI 1] [(.long (4398044413952:Int64))] ?_
  refine own_ret X10 (v:=some (.long (4398044413952:Int64))) (oN Br) Bs (fun fs hr=>own_retL X10 hx Br (hb hby d19_68) hr) ?_ (by decide) (by decide)
  unfold Q19a77
  exact ⟨rfl,N10,e10⟩
def Q1a69 (Z:State)(b3:Addr)(h0:Heap)(n0:Nat)(v:Option Value)(h:Heap)(L:List Loc):Prop:=∃ (b4:Addr)(k4:ClassId)(x4a:Addr)(kc4:ClassId)(x4b x4c b5:Addr)(k5:ClassId)(x5a:Addr)(kc5:ClassId)(x5b x5c:Addr),v = none∧Fr n0 L∧Keep h0 h [b3]∧n0≤b4∧h0.size≤b4∧n0≤x4a∧h0.size≤x4a∧n0≤x4b∧h0.size≤x4b∧n0≤x4c∧h0.size≤x4c∧n0≤b5∧h0.size≤b5∧n0≤x5a∧h0.size≤x5a∧n0≤x5b∧h0.size≤x5b∧n0≤x5c∧h0.size≤x5c∧x4a≠b4∧x4b≠b4∧x4b≠x4a∧x4c≠b4∧x4c≠x4a∧x4c≠x4b∧b5≠b4∧b5≠x4a∧b5≠x4b∧b5≠x4c∧x5a≠b4∧x5a≠x4a∧x5a≠x4b∧x5a≠x4c∧x5a≠b5∧x5b≠b4∧x5b≠x4a∧x5b≠x4b∧x5b≠x4c∧x5b≠b5∧x5b≠x5a∧x5c≠b4∧x5c≠x4a∧x5c≠x4b∧x5c≠x4c∧x5c≠b5∧x5c≠x5a∧x5c≠x5b∧oF3 Z h b3 (vR b4)∧oF4 Z h b3 (vR b5)∧Arv Z h b4 k4 (.array .int) 3 [vR x4a,vR x4b,vR x4c] .null∧OvrA Z k4 .int "[I"∧Exa Z h b4 "[[I"∧Arv Z h x4a kc4 .int 3 [vI 42,vI 21,vI 0] (vI 0)∧Exa Z h x4a "[I"∧Arv Z h x4b kc4 .int 3 [vI 21,vI 42,vI 0] (vI 0)∧Exa Z h x4b "[I"∧Arv Z h x4c kc4 .int 3 [vI 0,vI 42,vI 21] (vI 0)∧Exa Z h x4c "[I"∧Arv Z h b5 k5 (.array .int) 3 [vR x5a,vR x5b,vR x5c] .null∧OvrA Z k5 .int "[I"∧Exa Z h b5 "[[I"∧Arv Z h x5a kc5 .int 3 [vI 22,vI 21,vI 21] (vI 0)∧Exa Z h x5a "[I"∧Arv Z h x5b kc5 .int 3 [vI 21,vI 22,vI 21] (vI 0)∧Exa Z h x5b "[I"∧Arv Z h x5c kc5 .int 3 [vI 21,vI 22,vI 21] (vI 0)∧Exa Z h x5c "[I"
set_option maxRecDepth 65536 in
set_option maxHeartbeats 40000000 in
theorem rm1a69 (l:Launch)(Z:State)(a0:Array Value)(hw:HW a0 Z)(ws:List Jvm.Cond)(b12 wd:Addr)(kd:ClassId)(h0:Heap)(n0:Nat)(Z0:n0≤h0.size)(PS0:Sta Z h0 "java/util/ArrayList" "DEFAULTCAPACITY_EMPTY_ELEMENTDATA" "[Ljava/lang/Object;" (vR wd))(PV1:Arv Z h0 wd kd (.object oOb) 0 [] .null)(PE2:Exa Z h0 b12 oLy)(PF3:oF3 Z h0 b12 .null)(PF4:oF4 Z h0 b12 .null)(PF5:oF5 Z h0 b12 .null)(PF6:oF6 Z h0 b12 .null)(n_b12:n0≤b12) :
    own_Met l mn17 prog_28_method_1_code 13 none ws (oRm 7 26 69 105) #[vR b12,vI 2,vI 3] Z h0 (Q1a69 Z b12 h0 n0):=by
  refine own_met (own:=oLy) rfl (plainFor_of_name pn_0) ?_
  intro p e s m below meth c s₁ hx hby hml hZ hown hnm X0 e0 Br Bs
  have N0:=Fr.nil n0
  have tt:=own_tt hx hby own_ok1
  refine oV 0 #[oR b12,oI 2,oI 3,oU,oU,oU,oU,oU,oU,oU,oU,oU,oU] [] ?_
  refine oG X0 tt 1 1 #[oR b12,oI 2,oI 3,oU,oU,oU,oU,oU,oU,oU,oU,oU,oU] [vR b12] rfl ?_
  obtain ⟨T13,X13,e13,st13⟩:=initO X0 hx hZ hown (ow7 hw) (ow8 hw) (ow9 hw) e0 (g:=(mkF m 1 #[oR b12,oI 2,oI 3,oU,oU,oU,oU,oU,oU,oU,oU,oU,oU] [vR b12])) rfl hml.symm rfl (hb hby d1_1) (by decide) (W:=0) (oZ rfl) (by decide)
  refine oH st13 X13 tt 3 7 #[oR b12,oI 2,oI 3,oU,oU,oU,oU,oU,oU,oU,oU,oU,oU] [vI 4] rfl ?_
  obtain ⟨T14,h14,k14,X14,e14,E14,A14,EA14,st14⟩:=newPE (aty:=.int) X13 hx hZ (ow10 hw) e13 (g:=(mkF m 7 #[oR b12,oI 2,oI 3,oU,oU,oU,oU,oU,oU,oU,oU,oU,oU] [vI 4])) rfl (hb hby d1_7) rfl (by decide) (cap:=4) (by decide) (by decide) (by decide) (by decide) (ad:="[I") (by decide +kernel)
  obtain ⟨b14,g_b14⟩:∃ z,z = h0.size:=⟨_,rfl⟩
  have sg_b14:h0.size≤b14:=Nat.le_of_eq g_b14.symm
  rw [← g_b14] at A14 EA14 st14
  have n_b14:=oT Z0 sg_b14
  have sz_b14:=oT (Keep.refl h0 [b12]).1 sg_b14
  have K14:Keep h0 h14 [b12]:=(Keep.refl h0 [b12]).ext E14
  have V_b14:Arv Z h14 b14 k14 .int 4 own_ls1 (vI 0):=(Arv.new A14 (by decide)).pad (pad_rep [] (vI 0) 4)
  refine oJ 9 #[oR b12,oI 2,oI 3,oU,oU,oU,oU,oU,oU,oU,oU,oU,oU] [vR b14] st14 ?_
  have l15:b12 < b14:=oW PE2.lt sz_b14
  refine oX2 a0 [b12,b14] [0,k14] [] [] [1] [1] 2 [oR 0,oI 2,oI 3,oU,oU,oU,oU,oU,oU,oU,oU,oU,oU] [vR 1] [(1,.int,4,[vI 0,vI 0,vI 0,vI 0])] 55 [oR 0,oI 2,oI 3,oR 1,oI 3,oU,oU,oU,oU,oU,oU,oU,oU] [] [(1,[vI 0,vI 22,vI 43,vI 64])] tt hZ hown X14 N0 e14 trivial trivial trivial (oA V_b14 trivial) (Or.inr (oA l15 trivial)) (oA n_b14 trivial) rfl rfl (by decide +kernel) 79 (by decide +kernel) fun T16 h16 _ X16 N16 e16 K16 q16 M16=>?_
  have Kq16:Keep h14 h16 [b14]:=K16
  have KK16:Keep h0 h16 [b12]:=Keep.trans K14 Kq16 (allS (Or.inr sz_b14) all0)
  obtain ⟨v16_0,-⟩:=M16
  have V16_0:Arv Z h16 b14 k14 .int 4 own_ls2 (vI 0):=v16_0
  refine oV 55 #[oR b12,oI 2,oI 3,oR b14,oI 3,oU,oU,oU,oU,oU,oU,oU,oU] [] ?_
  obtain ⟨T17,h17,X17,e17,E17,A17,D17,-,st17⟩:=newO X16 hx hZ hown (ow11 hw) (ow12 hw) (ow13 hw) e16 (g:=(mkF m 55 #[oR b12,oI 2,oI 3,oR b14,oI 3,oU,oU,oU,oU,oU,oU,oU,oU] [])) rfl (hb hby d1_55) (by decide) (by decide)
  obtain ⟨b17,g_b17⟩:∃ z,z = h16.size:=⟨_,rfl⟩
  have sg_b17:h16.size≤b17:=Nat.le_of_eq g_b17.symm
  rw [← g_b17] at A17 D17 st17
  have n_b17:=oT (oT (oT Z0 E14.1) Kq16.1) sg_b17
  have sz_b17:=oT KK16.1 sg_b17
  have u18:=(oW V_b14.lt Kq16.1)
  have m19:h0.size≤h16.size:=(oT (oT (Nat.le_refl _) E14.1) Kq16.1)
  have K17:Keep h0 h17 [b12]:=KK16.ext E17
  have F_modCount_b17:oF0 Z h17 b17 (vI 0):=D17 (Or.inl (ow31 hw)) (ty:=.int) (by decide)
  have F_elementData_b17:oF1 Z h17 b17 .null:=D17 (Or.inl (ow34 hw)) (ty:=(.array (.object oOb))) (by decide)
  have F_size_b17:oF2 Z h17 b17 (vI 0):=D17 (Or.inl (ow59 hw)) (ty:=.int) (by decide)
  refine oH st17 X17 tt 1 59 #[oR b12,oI 2,oI 3,oR b14,oI 3,oU,oU,oU,oU,oU,oU,oU,oU] [vR b17,vR b17] rfl ?_
  have G20:=((own_sta_keep (PS0.ext E14) Kq16 (own_wsV V_b14 own_ws0)).ext E17)
  refine own_cN X17 hx hZ hown e17 rfl (ow14 hw) (ow15 hw) (ow13 hw) (ow16 hw) (y:=mn2) (b:=b17) (argsL:=[]) (rest:=[vR b17]) (W:=1) hml.symm (hb hby d1_59) (lenOf pd2 rfl) rfl (by decide) (rm3a2 l Z a0 hw [] b17 wd h17 n0 (oT (oT (oT Z0 E14.1) Kq16.1) E17.1) G20 A17 F_modCount_b17 F_elementData_b17 F_size_b17 n_b17) fun _ T21 _ X21 hQ21=>?_
  obtain ⟨rfl,N21q,K21,g21_0,g21_1,g21_2⟩:=hQ21
  have N21:=Fr.app N16 N21q
  have eK21:T21.heap = T21.heap:=rfl
  have KK21:Keep h0 T21.heap [b12]:=Keep.trans K17 K21 (allS (Or.inr sz_b17) all0)
  obtain ⟨_,X21,N21⟩:=own_hide X21 N21
  refine oV 62 #[oR b12,oI 2,oI 3,oR b14,oI 3,oU,oU,oU,oU,oU,oU,oU,oU] [vR b17] ?_
  refine oG X21 tt 9 72 #[oR b12,oI 2,oI 3,oR b14,oR b17,oU,oU,oU,oU,oU,oU,oU,oU] [vI 1,vI 0,vI 1,vI 3] rfl ?_
  obtain ⟨T22,h22,k22,X22,e22,E22,A22,EA22,st22⟩:=newPE (aty:=.int) X21 hx hZ (ow10 hw) eK21 (g:=(mkF m 72 #[oR b12,oI 2,oI 3,oR b14,oR b17,oU,oU,oU,oU,oU,oU,oU,oU] [vI 1,vI 0,vI 1,vI 3])) rfl (hb hby d1_72) rfl (by decide) (cap:=1) (by decide) (by decide) (by decide) (by decide) (ad:="[I") (by decide +kernel)
  obtain ⟨b22,g_b22⟩:∃ z,z = T21.heap.size:=⟨_,rfl⟩
  have sg_b22:T21.heap.size≤b22:=Nat.le_of_eq g_b22.symm
  rw [← g_b22] at A22 EA22 st22
  have n_b22:=oT (oT (oT (oT (oT Z0 E14.1) Kq16.1) E17.1) K21.1) sg_b22
  have sz_b22:=oT KK21.1 sg_b22
  have u23:=(oW A17.lt K21.1)
  have m24:h16.size≤T21.heap.size:=(oT (oT (Nat.le_refl _) E17.1) K21.1)
  have K22:Keep h0 h22 [b12]:=KK21.ext E22
  have V_b22:Arv Z h22 b22 k22 .int 1 [vI 0] (vI 0):=(Arv.new A22 (by decide)).pad (pad_rep [] (vI 0) 1)
  refine oH st22 X22 tt 2 77 #[oR b12,oI 2,oI 3,oR b14,oR b17,oU,oU,oU,oU,oU,oU,oU,oU] [vR b17,vI 0,vR b22,vI 0,vI 1,vI 3] rfl ?_
  have G25:=((own_sta_keep G20 K21 (own_wsE A17 own_ws0)).ext E22)
  have G26:=(((((PV1.ext E14).keep Kq16 (ninS (oL PV1.lt sz_b14) nin0)).ext E17).keep K21 (ninS (oL PV1.lt sz_b17) nin0)).ext E22)
  refine own_cS X22 hx hZ hown e22 (ow35 hw) (ow36 hw) (ow3 hw) (ow37 hw) (y:=mn9) (argsL:=[vI 3,vI 1,vI 0,vR b22,vI 0,vR b17]) (rest:=[]) (W:=0) hml.symm (hb hby d1_77) (lenOf pd9 rfl) rfl (by decide) (rm6a70 l Z a0 hw [] b22 b17 wd kd k22 h22 n0 (oT (oT (oT (oT (oT Z0 E14.1) Kq16.1) E17.1) K21.1) E22.1) G25 G26 ((A17.keep K21).ext E22) (g21_0.ext E22) (g21_1.ext E22) (g21_2.ext E22) V_b22 EA22 (oL PV1.lt sz_b17) (oL PV1.lt sz_b22) (oL u23 sg_b22) (oM u23 sg_b22) n_b22 n_b17) fun _ T27 _ X27 hQ27=>?_
  obtain ⟨b27a,k27b,b27c,b27d,b27e,rfl,N27q,K27,n_b27a,sg_b27a,n_b27c,sg_b27c,n_b27d,sg_b27d,n_b27e,sg_b27e,ne27_0,ne27_1,ne27_2,ne27_3,ne27_4,ne27_5,g27_0,g27_1,g27_2,g27_3,g27_4,g27_5,g27_6,g27_7,g27_8,g27_9,g27_10,g27_11⟩:=hQ27
  have N27:=Fr.app N21 N27q
  have sz_b27a:=oT K22.1 sg_b27a
  have sz_b27c:=oT K22.1 sg_b27c
  have sz_b27d:=oT K22.1 sg_b27d
  have sz_b27e:=oT K22.1 sg_b27e
  have u28:b22 < h22.size:=V_b22.lt
  have m29:T21.heap.size≤h22.size:=(oT (Nat.le_refl _) E22.1)
  have eK27:T27.heap = T27.heap:=rfl
  have KK27:Keep h0 T27.heap [b12]:=Keep.trans K22 K27 (allS (Or.inr sz_b22) (allS (Or.inr sz_b17) all0))
  obtain ⟨_,X27,N27⟩:=own_hide X27 N27
  refine oV 80 #[oR b12,oI 2,oI 3,oR b14,oR b17,oU,oU,oU,oU,oU,oU,oU,oU] [] ?_
  refine oG X27 tt 2 83 #[oR b12,oI 2,oI 3,oR b14,oR b17,oU,oU,oU,oU,oU,oU,oU,oU] [vR b17,vR b12] rfl ?_
  have Zs30:n0≤T27.heap.size:=(oT (oT (oT (oT (oT (oT Z0 E14.1) Kq16.1) E17.1) K21.1) E22.1) K27.1)
  refine own_cI X27 hx hZ hown eK27 (ow82 hw) (ow83 hw) (mvT hZ (ow84 hw)) (ow85 hw) (ow86 hw) (ow87 hw) (ow88 hw) (ow54 hw) (ow13 hw) (ow89 hw) (((A17.keep K21).ext E22).keep K27) (y:=mn11) (z:=mn10) (argsL:=[]) (rest:=[vR b12]) (W:=1) hml.symm (hb hby d1_83) (lenOf pd0 rfl) rfl (by decide) (rm12a48 l Z a0 hw [] b17 T27.heap n0 Zs30 g27_3) fun _ T31 _ X31 hQ31=>?_
  obtain ⟨rfl,N31q,hh31⟩:=hQ31
  have N31:=Fr.app N27 N31q
  obtain ⟨_,X31,N31⟩:=own_hide X31 N31
  refine oV 88 #[oR b12,oI 2,oI 3,oR b14,oR b17,oU,oU,oU,oU,oU,oU,oU,oU] [vI 3,vR b12] ?_
  refine oG X31 tt 1 89 #[oR b12,oI 2,oI 3,oR b14,oR b17,oU,oU,oU,oU,oU,oU,oU,oU] [vI 3,vI 3,vR b12] rfl ?_
  obtain ⟨T32,h32,k32,kc32,X32,e32,E32,A32,O32,EA32,I32,st32⟩:=gridM X31 hx hZ (C:="[I") (ad:="[[I") (ty:=.int) hown (by decide +kernel) (by decide +kernel) (ow90 hw) (ow91 hw) (ow10 hw) hh31 (g:=(mkF m 89 #[oR b12,oI 2,oI 3,oR b14,oR b17,oU,oU,oU,oU,oU,oU,oU,oU] [vI 3,vI 3,vR b12])) rfl (hb hby d1_89) rfl (by decide) (by decide) (N:=3) (by decide) rfl (cap:=3) (by decide) (by decide) (by decide) rfl rfl (by decide) (by decide)
  obtain ⟨b32,g_b32⟩:∃ z,z = T27.heap.size:=⟨_,rfl⟩
  obtain ⟨x32a,g_x32a⟩:∃ z,z = T27.heap.size + 1 + 0:=⟨_,rfl⟩
  obtain ⟨x32b,g_x32b⟩:∃ z,z = T27.heap.size + 1 + 1:=⟨_,rfl⟩
  obtain ⟨x32c,g_x32c⟩:∃ z,z = T27.heap.size + 1 + 2:=⟨_,rfl⟩
  have sg_b32:T27.heap.size≤b32:=by omega
  have n_b32:=oT Zs30 sg_b32
  have sz_b32:=oT KK27.1 sg_b32
  have sg_x32a:T27.heap.size≤x32a:=by omega
  have n_x32a:=oT Zs30 sg_x32a
  have sz_x32a:=oT KK27.1 sg_x32a
  have sg_x32b:T27.heap.size≤x32b:=by omega
  have n_x32b:=oT Zs30 sg_x32b
  have sz_x32b:=oT KK27.1 sg_x32b
  have sg_x32c:T27.heap.size≤x32c:=by omega
  have n_x32c:=oT Zs30 sg_x32c
  have sz_x32c:=oT KK27.1 sg_x32c
  have u33:b27a < T27.heap.size:=g27_4.lt
  have u34:b27c < T27.heap.size:=g27_6.lt
  have u35:b27d < T27.heap.size:=g27_8.lt
  have u36:b27e < T27.heap.size:=g27_10.lt
  have m37:h22.size≤T27.heap.size:=(oT (Nat.le_refl _) K27.1)
  have nn_x32a_b32:x32a≠b32:=by omega
  have nn_x32b_b32:x32b≠b32:=by omega
  have nn_x32b_x32a:x32b≠x32a:=by omega
  have nn_x32c_b32:x32c≠b32:=by omega
  have nn_x32c_x32a:x32c≠x32a:=by omega
  have nn_x32c_x32b:x32c≠x32b:=by omega
  have K32:Keep h0 h32 [b12]:=KK27.ext E32
  have V_b32:Arv Z h32 b32 k32 (.array .int) 3 [vR x32a,vR x32b,vR x32c] .null:=by rw [g_b32,g_x32a,g_x32b,g_x32c]; exact A32
  have EE_b32:Exa Z h32 b32 "[[I":=by rw [g_b32]; exact EA32
  have V_x32a:Arv Z h32 x32a kc32 .int 3 [vI 0,vI 0,vI 0] (vI 0):=by rw [g_x32a]; exact (Arv.new (I32 0 _ rfl).1 (by decide)).pad (pad_rep [] (vI 0) 3)
  have EE_x32a:Exa Z h32 x32a "[I":=by rw [g_x32a]; exact (I32 0 _ rfl).2
  have V_x32b:Arv Z h32 x32b kc32 .int 3 [vI 0,vI 0,vI 0] (vI 0):=by rw [g_x32b]; exact (Arv.new (I32 1 _ rfl).1 (by decide)).pad (pad_rep [] (vI 0) 3)
  have EE_x32b:Exa Z h32 x32b "[I":=by rw [g_x32b]; exact (I32 1 _ rfl).2
  have V_x32c:Arv Z h32 x32c kc32 .int 3 [vI 0,vI 0,vI 0] (vI 0):=by rw [g_x32c]; exact (Arv.new (I32 2 _ rfl).1 (by decide)).pad (pad_rep [] (vI 0) 3)
  have EE_x32c:Exa Z h32 x32c "[I":=by rw [g_x32c]; exact (I32 2 _ rfl).2
  rw [← g_b32] at st32
  refine oJ 93 #[oR b12,oI 2,oI 3,oR b14,oR b17,oU,oU,oU,oU,oU,oU,oU,oU] [vR b32,vR b12] st32 ?_
  have G38:=(((((((PE2.ext E14).keep Kq16).ext E17).keep K21).ext E22).keep K27).ext E32)
  have K39:Keep _ h32 [b14,b17,b22]:=(Keep.trans ((Keep.trans ((Keep.trans ((Keep.refl _ _).ext E14) Kq16 (allS oI0 all0)).ext E17) K21 (allS oI1 all0)).ext E22) K27 (allS oI2 (allS oI1 all0))).ext E32
  have G40:=(PF3.keep K39 (ninS (oL PE2.lt sz_b14) (ninS (oL PE2.lt sz_b17) (ninS (oL PE2.lt sz_b22) nin0))))
  obtain ⟨T41,h41,X41,e41,W41,st41⟩:=putF X32 hx hZ hown (host:="") (Or.inl (ow92 hw)) Via.refl e32 G40 G38 (Or.inr ⟨(ow93 hw),rfl,hnm⟩) (ow2 hw) (ty:=(.array (.array .int))) (by decide) rfl rfl (g:=(mkF m 93 #[oR b12,oI 2,oI 3,oR b14,oR b17,oU,oU,oU,oU,oU,oU,oU,oU] [vR b32,vR b12])) rfl rfl (hb hby d1_93)
  have Fw41:=Fld.same W41 G40
  have K41:Keep h0 h41 [b12]:=K32.wr W41 oI0
  have N41:=Fr.snoc X41 N31 n_b12
  refine oH st41 X41 tt 2 99 #[oR b12,oI 2,oI 3,oR b14,oR b17,oU,oU,oU,oU,oU,oU,oU,oU] [vR b17,vR b12] rfl ?_
  have G42:=((g27_3.ext E32).other W41 (Or.inl (oM PE2.lt sz_b17)))
  have G43:=(((((A17.keep K21).ext E22).keep K27).ext E32).wr W41)
  refine own_cI X41 hx hZ hown e41 (ow82 hw) (ow83 hw) (mvT hZ (ow84 hw)) (ow85 hw) (ow86 hw) (ow87 hw) (ow88 hw) (ow54 hw) (ow13 hw) (ow89 hw) G43 (y:=mn11) (z:=mn10) (argsL:=[]) (rest:=[vR b12]) (W:=1) hml.symm (hb hby d1_99) (lenOf pd0 rfl) rfl (by decide) (rm12a48 l Z a0 hw [] b17 h41 n0 (oT (oT Zs30 E32.1) (Keep.of_wr W41).1) G42) fun _ T44 _ X44 hQ44=>?_
  obtain ⟨rfl,N44q,hh44⟩:=hQ44
  have N44:=Fr.app N41 N44q
  obtain ⟨_,X44,N44⟩:=own_hide X44 N44
  refine oV 104 #[oR b12,oI 2,oI 3,oR b14,oR b17,oU,oU,oU,oU,oU,oU,oU,oU] [vI 3,vR b12] ?_
  refine oG X44 tt 1 105 #[oR b12,oI 2,oI 3,oR b14,oR b17,oU,oU,oU,oU,oU,oU,oU,oU] [vI 3,vI 3,vR b12] rfl ?_
  obtain ⟨T45,h45,k45,kc45,X45,e45,E45,A45,O45,EA45,I45,st45⟩:=gridM X44 hx hZ (C:="[I") (ad:="[[I") (ty:=.int) hown (by decide +kernel) (by decide +kernel) (ow90 hw) (ow91 hw) (ow10 hw) hh44 (g:=(mkF m 105 #[oR b12,oI 2,oI 3,oR b14,oR b17,oU,oU,oU,oU,oU,oU,oU,oU] [vI 3,vI 3,vR b12])) rfl (hb hby d1_105) rfl (by decide) (by decide) (N:=3) (by decide) rfl (cap:=3) (by decide) (by decide) (by decide) rfl rfl (by decide) (by decide)
  obtain ⟨b45,g_b45⟩:∃ z,z = h41.size:=⟨_,rfl⟩
  obtain ⟨x45a,g_x45a⟩:∃ z,z = h41.size + 1 + 0:=⟨_,rfl⟩
  obtain ⟨x45b,g_x45b⟩:∃ z,z = h41.size + 1 + 1:=⟨_,rfl⟩
  obtain ⟨x45c,g_x45c⟩:∃ z,z = h41.size + 1 + 2:=⟨_,rfl⟩
  have sg_b45:h41.size≤b45:=by omega
  have n_b45:=oT (oT (oT Zs30 E32.1) (Keep.of_wr W41).1) sg_b45
  have sz_b45:=oT K41.1 sg_b45
  have sg_x45a:h41.size≤x45a:=by omega
  have n_x45a:=oT (oT (oT Zs30 E32.1) (Keep.of_wr W41).1) sg_x45a
  have sz_x45a:=oT K41.1 sg_x45a
  have sg_x45b:h41.size≤x45b:=by omega
  have n_x45b:=oT (oT (oT Zs30 E32.1) (Keep.of_wr W41).1) sg_x45b
  have sz_x45b:=oT K41.1 sg_x45b
  have sg_x45c:h41.size≤x45c:=by omega
  have n_x45c:=oT (oT (oT Zs30 E32.1) (Keep.of_wr W41).1) sg_x45c
  have sz_x45c:=oT K41.1 sg_x45c
  have u46:=(oW V_b32.lt (Keep.of_wr W41).1)
  have u47:=(oW V_x32a.lt (Keep.of_wr W41).1)
  have u48:=(oW V_x32b.lt (Keep.of_wr W41).1)
  have u49:=(oW V_x32c.lt (Keep.of_wr W41).1)
  have m50:T27.heap.size≤h41.size:=(oT (oT (Nat.le_refl _) E32.1) (Keep.of_wr W41).1)
  have nn_x45a_b45:x45a≠b45:=by omega
  have nn_x45b_b45:x45b≠b45:=by omega
  have nn_x45b_x45a:x45b≠x45a:=by omega
  have nn_x45c_b45:x45c≠b45:=by omega
  have nn_x45c_x45a:x45c≠x45a:=by omega
  have nn_x45c_x45b:x45c≠x45b:=by omega
  have K45:Keep h0 h45 [b12]:=K41.ext E45
  have V_b45:Arv Z h45 b45 k45 (.array .int) 3 [vR x45a,vR x45b,vR x45c] .null:=by rw [g_b45,g_x45a,g_x45b,g_x45c]; exact A45
  have EE_b45:Exa Z h45 b45 "[[I":=by rw [g_b45]; exact EA45
  have V_x45a:Arv Z h45 x45a kc45 .int 3 [vI 0,vI 0,vI 0] (vI 0):=by rw [g_x45a]; exact (Arv.new (I45 0 _ rfl).1 (by decide)).pad (pad_rep [] (vI 0) 3)
  have EE_x45a:Exa Z h45 x45a "[I":=by rw [g_x45a]; exact (I45 0 _ rfl).2
  have V_x45b:Arv Z h45 x45b kc45 .int 3 [vI 0,vI 0,vI 0] (vI 0):=by rw [g_x45b]; exact (Arv.new (I45 1 _ rfl).1 (by decide)).pad (pad_rep [] (vI 0) 3)
  have EE_x45b:Exa Z h45 x45b "[I":=by rw [g_x45b]; exact (I45 1 _ rfl).2
  have V_x45c:Arv Z h45 x45c kc45 .int 3 [vI 0,vI 0,vI 0] (vI 0):=by rw [g_x45c]; exact (Arv.new (I45 2 _ rfl).1 (by decide)).pad (pad_rep [] (vI 0) 3)
  have EE_x45c:Exa Z h45 x45c "[I":=by rw [g_x45c]; exact (I45 2 _ rfl).2
  rw [← g_b45] at st45
  refine oJ 109 #[oR b12,oI 2,oI 3,oR b14,oR b17,oU,oU,oU,oU,oU,oU,oU,oU] [vR b45,vR b12] st45 ?_
  have G51:=(((PF4.keep K39 (ninS (oL PE2.lt sz_b14) (ninS (oL PE2.lt sz_b17) (ninS (oL PE2.lt sz_b22) nin0)))).other W41 (Or.inr (sn_95_93 hw))).ext E45)
  obtain ⟨T52,h52,X52,e52,W52,st52⟩:=putF X45 hx hZ hown (host:="") (Or.inl (ow94 hw)) Via.refl e45 G51 ((G38.wr W41).ext E45) (Or.inr ⟨(ow95 hw),rfl,hnm⟩) (ow2 hw) (ty:=(.array (.array .int))) (by decide) rfl rfl (g:=(mkF m 109 #[oR b12,oI 2,oI 3,oR b14,oR b17,oU,oU,oU,oU,oU,oU,oU,oU] [vR b45,vR b12])) rfl rfl (hb hby d1_109)
  have Fw52:=Fld.same W52 G51
  have K52:Keep h0 h52 [b12]:=K45.wr W52 oI0
  have N52:=Fr.snoc X52 N44 n_b12
  refine oH st52 X52 tt 2 115 #[oR b12,oI 2,oI 3,oR b14,oR b17,oU,oU,oU,oU,oU,oU,oU,oU] [vR b17,vR b12] rfl ?_
  have G53:=((G42.ext E45).other W52 (Or.inl (oM PE2.lt sz_b17)))
  have Zs54:n0≤h52.size:=(oT (oT (oT (oT Zs30 E32.1) (Keep.of_wr W41).1) E45.1) (Keep.of_wr W52).1)
  refine own_cI X52 hx hZ hown e52 (ow82 hw) (ow83 hw) (mvT hZ (ow84 hw)) (ow85 hw) (ow86 hw) (ow87 hw) (ow88 hw) (ow54 hw) (ow13 hw) (ow89 hw) ((G43.ext E45).wr W52) (y:=mn11) (z:=mn10) (argsL:=[]) (rest:=[vR b12]) (W:=1) hml.symm (hb hby d1_115) (lenOf pd0 rfl) rfl (by decide) (rm12a48 l Z a0 hw [] b17 h52 n0 Zs54 G53) fun _ T55 _ X55 hQ55=>?_
  obtain ⟨rfl,N55q,hh55⟩:=hQ55
  have N55:=Fr.app N52 N55q
  obtain ⟨_,X55,N55⟩:=own_hide X55 N55
  refine oV 120 #[oR b12,oI 2,oI 3,oR b14,oR b17,oU,oU,oU,oU,oU,oU,oU,oU] [vI 3,vR b12] ?_
  obtain ⟨T56,h56,k56,X56,e56,E56,A56,EA56,st56⟩:=newPE (aty:=.int) X55 hx hZ (ow10 hw) hh55 (g:=(mkF m 120 #[oR b12,oI 2,oI 3,oR b14,oR b17,oU,oU,oU,oU,oU,oU,oU,oU] [vI 3,vR b12])) rfl (hb hby d1_120) rfl (by decide) (cap:=3) (by decide) (by decide) (by decide) (by decide) (ad:="[I") (by decide +kernel)
  obtain ⟨b56,g_b56⟩:∃ z,z = h52.size:=⟨_,rfl⟩
  have sg_b56:h52.size≤b56:=Nat.le_of_eq g_b56.symm
  rw [← g_b56] at A56 EA56 st56
  have n_b56:=oT Zs54 sg_b56
  have sz_b56:=oT K52.1 sg_b56
  have u57:=(oW V_b45.lt (Keep.of_wr W52).1)
  have u58:=(oW V_x45a.lt (Keep.of_wr W52).1)
  have u59:=(oW V_x45b.lt (Keep.of_wr W52).1)
  have u60:=(oW V_x45c.lt (Keep.of_wr W52).1)
  have m61:h41.size≤h52.size:=(oT (oT (Nat.le_refl _) E45.1) (Keep.of_wr W52).1)
  have K56:Keep h0 h56 [b12]:=K52.ext E56
  have V_b56:Arv Z h56 b56 k56 .int 3 [vI 0,vI 0,vI 0] (vI 0):=(Arv.new A56 (by decide)).pad (pad_rep [] (vI 0) 3)
  refine oJ 122 #[oR b12,oI 2,oI 3,oR b14,oR b17,oU,oU,oU,oU,oU,oU,oU,oU] [vR b56,vR b12] st56 ?_
  have G62:=(((((PF5.keep K39 (ninS (oL PE2.lt sz_b14) (ninS (oL PE2.lt sz_b17) (ninS (oL PE2.lt sz_b22) nin0)))).other W41 (Or.inr (sn_97_93 hw))).ext E45).other W52 (Or.inr (sn_97_95 hw))).ext E56)
  obtain ⟨T63,h63,X63,e63,W63,st63⟩:=putF X56 hx hZ hown (host:="") (Or.inl (ow96 hw)) Via.refl e56 G62 ((((G38.wr W41).ext E45).wr W52).ext E56) (Or.inr ⟨(ow97 hw),rfl,hnm⟩) (ow2 hw) (ty:=(.array .int)) (by decide) rfl rfl (g:=(mkF m 122 #[oR b12,oI 2,oI 3,oR b14,oR b17,oU,oU,oU,oU,oU,oU,oU,oU] [vR b56,vR b12])) rfl rfl (hb hby d1_122)
  have Fw63:=Fld.same W63 G62
  have K63:Keep h0 h63 [b12]:=K56.wr W63 oI0
  have N63:=Fr.snoc X63 N55 n_b12
  refine oH st63 X63 tt 4 132 #[oR b12,oI 2,oI 3,oR b14,oR b17,oI 0,oU,oU,oU,oU,oU,oU,oU] [vR b17,vI 0] rfl ?_
  have G64:=((G53.ext E56).other W63 (Or.inl (oM PE2.lt sz_b17)))
  refine own_cI X63 hx hZ hown e63 (ow82 hw) (ow83 hw) (mvT hZ (ow84 hw)) (ow85 hw) (ow86 hw) (ow87 hw) (ow88 hw) (ow54 hw) (ow13 hw) (ow89 hw) ((((G43.ext E45).wr W52).ext E56).wr W63) (y:=mn11) (z:=mn10) (argsL:=[]) (rest:=[vI 0]) (W:=1) hml.symm (hb hby d1_132) (lenOf pd0 rfl) rfl (by decide) (rm12a48 l Z a0 hw [] b17 h63 n0 (oT (oT Zs54 E56.1) (Keep.of_wr W63).1) G64) fun _ T65 _ X65 hQ65=>?_
  obtain ⟨rfl,N65q,hh65⟩:=hQ65
  have N65:=Fr.app N63 N65q
  obtain ⟨_,X65,N65⟩:=own_hide X65 N65
  refine oV 137 #[oR b12,oI 2,oI 3,oR b14,oR b17,oI 0,oU,oU,oU,oU,oU,oU,oU] [vI 3,vI 0] ?_
  refine oG X65 tt 2 141 #[oR b12,oI 2,oI 3,oR b14,oR b17,oI 0,oU,oU,oU,oU,oU,oU,oU] [vI 3] rfl ?_
  obtain ⟨T66,h66,k66,X66,e66,E66,A66,EA66,st66⟩:=newPE (aty:=.boolean) X65 hx hZ (ow98 hw) hh65 (g:=(mkF m 141 #[oR b12,oI 2,oI 3,oR b14,oR b17,oI 0,oU,oU,oU,oU,oU,oU,oU] [vI 3])) rfl (hb hby d1_141) rfl (by decide) (cap:=3) (by decide) (by decide) (by decide) (by decide) (ad:="[Z") (by decide +kernel)
  obtain ⟨b66,g_b66⟩:∃ z,z = h63.size:=⟨_,rfl⟩
  have sg_b66:h63.size≤b66:=Nat.le_of_eq g_b66.symm
  rw [← g_b66] at A66 EA66 st66
  have n_b66:=oT (oT (oT Zs54 E56.1) (Keep.of_wr W63).1) sg_b66
  have sz_b66:=oT K63.1 sg_b66
  have u67:=(oW V_b56.lt (Keep.of_wr W63).1)
  have m68:h52.size≤h63.size:=(oT (oT (Nat.le_refl _) E56.1) (Keep.of_wr W63).1)
  have K66:Keep h0 h66 [b12]:=K63.ext E66
  have V_b66:Arv Z h66 b66 k66 .boolean 3 [vI 0,vI 0,vI 0] (vI 0):=(Arv.new A66 (by decide)).pad (pad_rep [] (vI 0) 3)
  refine oH st66 X66 tt 3 149 #[oR b12,oI 2,oI 3,oR b14,oR b17,oI 0,oR b66,oU,oU,oU,oU,oU,oU] [vI 0,vR b17] rfl ?_
  have G69:=(((((G43.ext E45).wr W52).ext E56).wr W63).ext E66)
  have K70:Keep _ h66 [b12]:=((((((Keep.refl _ _).wr W41 oI0).ext E45).wr W52 oI0).ext E56).wr W63 oI0).ext E66
  have G71:=((g27_2.ext E32).keep K70 (ninS (oM PE2.lt sz_b17) nin0))
  have G72:=((g27_4.ext E32).keep K70 (ninS (oM PE2.lt sz_b27a) nin0))
  refine own_cI X66 hx hZ hown e66 (ow99 hw) (ow100 hw) (mvT hZ (ow101 hw)) (ow102 hw) (ow103 hw) (ow104 hw) (ow105 hw) (ow54 hw) (ow13 hw) (ow106 hw) G69 (y:=mn16) (z:=mn15) (argsL:=[vI 0]) (rest:=[]) (W:=0) hml.symm (hb hby d1_149) (lenOf pd5 rfl) rfl (by decide) (rm13a49 l Z a0 hw [] b17 b27a k27b b27c b27d b27e h66 n0 (oT (oT (oT Zs54 E56.1) (Keep.of_wr W63).1) E66.1) G69 G71 (G64.ext E66) G72) fun _ T73 _ X73 hQ73=>?_
  obtain ⟨rfl,N73q,hh73⟩:=hQ73
  have N73:=Fr.app N65 N73q
  obtain ⟨_,X73,N73⟩:=own_hide X73 N73
  refine oV 154 #[oR b12,oI 2,oI 3,oR b14,oR b17,oI 0,oR b66,oU,oU,oU,oU,oU,oU] [vR b27c] ?_
  have G74:=(((((((g27_7.ext E32).wr W41).ext E45).wr W52).ext E56).wr W63).ext E66)
  obtain ⟨T75,X75,e75,st75⟩:=castY X73 hx hZ hown (ow45 hw) hh73 (Ins.self G74) (g:=(mkF m 154 #[oR b12,oI 2,oI 3,oR b14,oR b17,oI 0,oR b66,oU,oU,oU,oU,oU,oU] [vR b27c])) rfl rfl (hb hby d1_154)
  refine oJ 157 #[oR b12,oI 2,oI 3,oR b14,oR b17,oI 0,oR b66,oU,oU,oU,oU,oU,oU] [vR b27c] st75 ?_
  have G76:=((g27_6.ext E32).keep K70 (ninS (oM PE2.lt sz_b27c) nin0))
  have l77:b14 < b17:=oW u18 sg_b17
  have l78:b17 < b27c:=oW u23 (oT m29 sg_b27c)
  have c79:=oT m50 m61
  have c80:=oT c79 m68
  have l81:b27c < b66:=oW u34 (oT c80 sg_b66)
  refine oX2 a0 [b12,b14,b17,b27c,b66] [0,0,0,k22,k66] [] [] [4] [3,4] 5 [oR 0,oI 2,oI 3,oR 1,oR 2,oI 0,oR 4,oU,oU,oU,oU,oU,oU] [vR 3] [(3,.int,1,[vI 0]),(4,.boolean,3,[vI 0,vI 0,vI 0])] 197 [oR 0,oI 2,oI 3,oR 1,oR 2,oI 0,oR 4,oI 0,oI 1,oI 1,oI 0,oU,oU] [vI 2] [(4,[vI 1,vI 0,vI 0])] tt hZ hown X75 N73 e75 trivial trivial trivial (oA G76 (oA V_b66 trivial)) (Or.inr (oA l15 (oA l77 (oA l78 (oA l81 trivial))))) (oA n_b66 trivial) rfl rfl (by decide +kernel) 25 (by decide +kernel) fun T82 h82 _ X82 N82 e82 K82 q82 M82=>?_
  have Kq82:Keep h66 h82 [b66]:=K82
  have KK82:Keep h0 h82 [b12]:=Keep.trans K66 Kq82 (allS (Or.inr sz_b66) all0)
  obtain ⟨-,v82_1,-⟩:=M82
  have V82_1:Arv Z h82 b66 k66 .boolean 3 [vI 1,vI 0,vI 0] (vI 0):=v82_1
  refine oV 197 #[oR b12,oI 2,oI 3,oR b14,oR b17,oI 0,oR b66,oI 0,oI 1,oI 1,oI 0,oU,oU] [vI 2] ?_
  obtain ⟨T83,h83,k83,X83,e83,E83,A83,EA83,st83⟩:=newPE (aty:=.boolean) X82 hx hZ (ow98 hw) e82 (g:=(mkF m 197 #[oR b12,oI 2,oI 3,oR b14,oR b17,oI 0,oR b66,oI 0,oI 1,oI 1,oI 0,oU,oU] [vI 2])) rfl (hb hby d1_197) rfl (by decide) (cap:=2) (by decide) (by decide) (by decide) (by decide) (ad:="[Z") (by decide +kernel)
  obtain ⟨b83,g_b83⟩:∃ z,z = h82.size:=⟨_,rfl⟩
  have sg_b83:h82.size≤b83:=Nat.le_of_eq g_b83.symm
  rw [← g_b83] at A83 EA83 st83
  have n_b83:=oT (oT (oT (oT (oT Zs54 E56.1) (Keep.of_wr W63).1) E66.1) Kq82.1) sg_b83
  have sz_b83:=oT KK82.1 sg_b83
  have u84:=(oW V_b66.lt Kq82.1)
  have m85:h63.size≤h82.size:=(oT (oT (Nat.le_refl _) E66.1) Kq82.1)
  have K83:Keep h0 h83 [b12]:=KK82.ext E83
  have V_b83:Arv Z h83 b83 k83 .boolean 2 [vI 0,vI 0] (vI 0):=(Arv.new A83 (by decide)).pad (pad_rep [] (vI 0) 2)
  refine oJ 199 #[oR b12,oI 2,oI 3,oR b14,oR b17,oI 0,oR b66,oI 0,oI 1,oI 1,oI 0,oU,oU] [vR b83] st83 ?_
  have c86:=oT m61 m68
  have q87:=oL u46 (oT c86 sg_b66)
  have G88:=(((V_b32.keep K70 (ninS (oM PE2.lt sz_b32) nin0)).keep Kq82 (ninS q87 nin0)).ext E83)
  have q89:=oL u18 (oT m24 sg_b22)
  have c90:=oT m24 m29
  have c91:=oT c90 m37
  have c92:=oT c91 m50
  have c93:=oT c92 m61
  have c94:=oT c93 m68
  have q95:=oL u18 (oT c94 sg_b66)
  have G96:=((((((((V16_0.ext E17).keep K21 (ninS (oL u18 sg_b17) nin0)).ext E22).keep K27 (ninS q89 (ninS (oL u18 sg_b17) nin0))).ext E32).keep K70 (ninS (oM PE2.lt sz_b14) nin0)).keep Kq82 (ninS q95 nin0)).ext E83)
  have q97:=oL u47 (oT c86 sg_b66)
  have G98:=(((V_x32a.keep K70 (ninS (oM PE2.lt sz_x32a) nin0)).keep Kq82 (ninS q97 nin0)).ext E83)
  have q99:=oL u57 (oT m68 sg_b66)
  have G100:=((((((V_b45.other W52 (oM PE2.lt sz_b45)).ext E56).other W63 (oM PE2.lt sz_b45)).ext E66).keep Kq82 (ninS q99 nin0)).ext E83)
  have q101:=oL u58 (oT m68 sg_b66)
  have G102:=((((((V_x45a.other W52 (oM PE2.lt sz_x45a)).ext E56).other W63 (oM PE2.lt sz_x45a)).ext E66).keep Kq82 (ninS q101 nin0)).ext E83)
  have G103:=((((V_b56.other W63 (oM PE2.lt sz_b56)).ext E66).keep Kq82 (ninS (oL u67 sg_b66) nin0)).ext E83)
  have G104:=(((((((Fw41.ext E45).other W52 (Or.inr (sn_93_95 hw))).ext E56).other W63 (Or.inr (sn_93_97 hw))).ext E66).keep Kq82 (ninS (oL PE2.lt sz_b66) nin0)).ext E83)
  have G105:=(((((Fw52.ext E56).other W63 (Or.inr (sn_95_97 hw))).ext E66).keep Kq82 (ninS (oL PE2.lt sz_b66) nin0)).ext E83)
  have G106:=(((Fw63.ext E66).keep Kq82 (ninS (oL PE2.lt sz_b66) nin0)).ext E83)
  have c107:=oT m29 m37
  have l108:b17 < b32:=oW u23 (oT c107 sg_b32)
  have l109:b32 < x32a:=by omega
  have l110:x32a < x32b:=by omega
  have l111:x32b < x32c:=by omega
  have l112:x32c < b45:=oW u49 sg_b45
  have l113:b45 < x45a:=by omega
  have l114:x45a < x45b:=by omega
  have l115:x45b < x45c:=by omega
  have l116:x45c < b56:=oW u60 sg_b56
  have l117:b56 < b66:=oW u67 sg_b66
  have l118:b66 < b83:=oW u84 sg_b83
  refine oX2 a0 [b12,b14,b17,b32,x32a,x32b,x32c,b45,x45a,x45b,x45c,b56,b66,b83] [0,k14,0,k32,kc32,0,0,k45,kc45,0,0,k56,k66,k83] [fE1_26 0 (vR 3),fE1_29 0 (vR 7),fE1_32 0 (vR 11)] [] [13,4,8,11] [13,12,3,1,4,7,8,11] 14 [oR 0,oI 2,oI 3,oR 1,oR 2,oI 0,oR 12,oI 0,oI 1,oI 1,oI 0,oU,oU] [vR 13] [(13,.boolean,2,[vI 0,vI 0]),(12,.boolean,3,[vI 1,vI 0,vI 0]),(3,(.array .int),3,[vR 4,vR 5,vR 6]),(1,.int,4,[vI 0,vI 22,vI 43,vI 64]),(4,.int,3,[vI 0,vI 0,vI 0]),(7,(.array .int),3,[vR 8,vR 9,vR 10]),(8,.int,3,[vI 0,vI 0,vI 0]),(11,.int,3,[vI 0,vI 0,vI 0])] 132 [oR 0,oI 2,oI 3,oR 1,oR 2,oI 1,oR 12,oI 3,oR 13,oI 2,oI 2,oI 0,oI 3] [vR 2,vI 1] [(13,[vI 1,vI 0]),(4,[vI 42,vI 21,vI 0]),(8,[vI 22,vI 21,vI 21]),(11,[vI 22,vI 0,vI 0])] tt hZ hown X83 N82 e83 (oA (ow92 hw) (oA (ow94 hw) (oA (ow96 hw) trivial))) trivial (oA G104 (oA G105 (oA G106 trivial))) (oA V_b83 (oA (V82_1.ext E83) (oA G88 (oA G96 (oA G98 (oA G100 (oA G102 (oA G103 trivial)))))))) (Or.inr (oA l15 (oA l77 (oA l108 (oA l109 (oA l110 (oA l111 (oA l112 (oA l113 (oA l114 (oA l115 (oA l116 (oA l117 (oA l118 trivial)))))))))))))) (oA n_b83 (oA n_x32a (oA n_x45a (oA n_b56 trivial)))) rfl rfl (by decide +kernel) 232 (by decide +kernel) fun T119 h119 _ X119 N119 e119 K119 q119 M119=>?_
  have Kq119:Keep h83 h119 [b83,x32a,x45a,b56]:=K119
  have KK119:Keep h0 h119 [b12]:=Keep.trans K83 Kq119 (allS (Or.inr sz_b83) (allS (Or.inr sz_x32a) (allS (Or.inr sz_x45a) (allS (Or.inr sz_b56) all0))))
  obtain ⟨v119_0,-,-,-,v119_4,-,v119_6,v119_7,-⟩:=M119
  have V119_0:Arv Z h119 b83 k83 .boolean 2 [vI 1,vI 0] (vI 0):=v119_0
  have V119_4:Arv Z h119 x32a kc32 .int 3 [vI 42,vI 21,vI 0] (vI 0):=v119_4
  have V119_6:Arv Z h119 x45a kc45 .int 3 [vI 22,vI 21,vI 21] (vI 0):=v119_6
  have V119_7:Arv Z h119 b56 k56 .int 3 [vI 22,vI 0,vI 0] (vI 0):=v119_7
  refine oV 132 #[oR b12,oI 2,oI 3,oR b14,oR b17,oI 1,oR b66,oI 3,oR b83,oI 2,oI 2,oI 0,oI 3] [vR b17,vI 1] ?_
  have c120:=oT c107 m50
  have c121:=oT c120 m61
  have c122:=oT c121 m68
  have q123:=oL u23 (oT c122 sg_b66)
  have q124:=oL u23 (oT c121 sg_b56)
  have q125:=oL u23 (oT c120 sg_x45a)
  have q126:=oL u23 (oT c107 sg_x32a)
  have c127:=oT c122 m85
  have q128:=oL u23 (oT c127 sg_b83)
  have G129:=((((G64.ext E66).keep Kq82 (ninS q123 nin0)).ext E83).keep Kq119 (ninS q128 (ninS q126 (ninS q125 (ninS q124 nin0)))))
  have Zs130:n0≤h119.size:=(oT (oT (oT (oT (oT (oT Zs54 E56.1) (Keep.of_wr W63).1) E66.1) Kq82.1) E83.1) Kq119.1)
  refine own_cI X119 hx hZ hown e119 (ow82 hw) (ow83 hw) (mvT hZ (ow84 hw)) (ow85 hw) (ow86 hw) (ow87 hw) (ow88 hw) (ow54 hw) (ow13 hw) (ow89 hw) (((G69.keep Kq82).ext E83).keep Kq119) (y:=mn11) (z:=mn10) (argsL:=[]) (rest:=[vI 1]) (W:=1) hml.symm (hb hby d1_132) (lenOf pd0 rfl) rfl (by decide) (rm12a48 l Z a0 hw [] b17 h119 n0 Zs130 G129) fun _ T131 _ X131 hQ131=>?_
  obtain ⟨rfl,N131q,hh131⟩:=hQ131
  have N131:=Fr.app N119 N131q
  obtain ⟨_,X131,N131⟩:=own_hide X131 N131
  refine oV 137 #[oR b12,oI 2,oI 3,oR b14,oR b17,oI 1,oR b66,oI 3,oR b83,oI 2,oI 2,oI 0,oI 3] [vI 3,vI 1] ?_
  refine oG X131 tt 2 141 #[oR b12,oI 2,oI 3,oR b14,oR b17,oI 1,oR b66,oI 3,oR b83,oI 2,oI 2,oI 0,oI 3] [vI 3] rfl ?_
  obtain ⟨T132,h132,k132,X132,e132,E132,A132,EA132,st132⟩:=newPE (aty:=.boolean) X131 hx hZ (ow98 hw) hh131 (g:=(mkF m 141 #[oR b12,oI 2,oI 3,oR b14,oR b17,oI 1,oR b66,oI 3,oR b83,oI 2,oI 2,oI 0,oI 3] [vI 3])) rfl (hb hby d1_141) rfl (by decide) (cap:=3) (by decide) (by decide) (by decide) (by decide) (ad:="[Z") (by decide +kernel)
  obtain ⟨b132,g_b132⟩:∃ z,z = h119.size:=⟨_,rfl⟩
  have sg_b132:h119.size≤b132:=Nat.le_of_eq g_b132.symm
  rw [← g_b132] at A132 EA132 st132
  have n_b132:=oT Zs130 sg_b132
  have sz_b132:=oT KK119.1 sg_b132
  have u133:=(oW V_b83.lt Kq119.1)
  have m134:h82.size≤h119.size:=(oT (oT (Nat.le_refl _) E83.1) Kq119.1)
  have K132:Keep h0 h132 [b12]:=KK119.ext E132
  have V_b132:Arv Z h132 b132 k132 .boolean 3 [vI 0,vI 0,vI 0] (vI 0):=(Arv.new A132 (by decide)).pad (pad_rep [] (vI 0) 3)
  refine oH st132 X132 tt 3 149 #[oR b12,oI 2,oI 3,oR b14,oR b17,oI 1,oR b132,oI 3,oR b83,oI 2,oI 2,oI 0,oI 3] [vI 1,vR b17] rfl ?_
  have G135:=((((G71.keep Kq82 (ninS q123 nin0)).ext E83).keep Kq119 (ninS q128 (ninS q126 (ninS q125 (ninS q124 nin0))))).ext E132)
  have q136:=oL u33 (oT c80 sg_b66)
  have q137:=oL u33 (oT c79 sg_b56)
  have q138:=oL u33 (oT m50 sg_x45a)
  have c139:=oT c80 m85
  have q140:=oL u33 (oT c139 sg_b83)
  have G141:=((((G72.keep Kq82 (ninS q136 nin0)).ext E83).keep Kq119 (ninS q140 (ninS (oL u33 sg_x32a) (ninS q138 (ninS q137 nin0))))).ext E132)
  refine own_cI X132 hx hZ hown e132 (ow99 hw) (ow100 hw) (mvT hZ (ow101 hw)) (ow102 hw) (ow103 hw) (ow104 hw) (ow105 hw) (ow54 hw) (ow13 hw) (ow106 hw) ((((G69.keep Kq82).ext E83).keep Kq119).ext E132) (y:=mn16) (z:=mn15) (argsL:=[vI 1]) (rest:=[]) (W:=0) hml.symm (hb hby d1_149) (lenOf pd5 rfl) rfl (by decide) (rm13a53 l Z a0 hw [] b17 b27a k27b b27c b27d b27e h132 n0 (oT Zs130 E132.1) ((((G69.keep Kq82).ext E83).keep Kq119).ext E132) G135 (G129.ext E132) G141) fun _ T142 _ X142 hQ142=>?_
  obtain ⟨rfl,N142q,hh142⟩:=hQ142
  have N142:=Fr.app N131 N142q
  obtain ⟨_,X142,N142⟩:=own_hide X142 N142
  refine oV 154 #[oR b12,oI 2,oI 3,oR b14,oR b17,oI 1,oR b132,oI 3,oR b83,oI 2,oI 2,oI 0,oI 3] [vR b27d] ?_
  have G143:=((((((g27_9.ext E32).keep K70).keep Kq82).ext E83).keep Kq119).ext E132)
  obtain ⟨T144,X144,e144,st144⟩:=castY X142 hx hZ hown (ow45 hw) hh142 (Ins.self G143) (g:=(mkF m 154 #[oR b12,oI 2,oI 3,oR b14,oR b17,oI 1,oR b132,oI 3,oR b83,oI 2,oI 2,oI 0,oI 3] [vR b27d])) rfl rfl (hb hby d1_154)
  refine oJ 157 #[oR b12,oI 2,oI 3,oR b14,oR b17,oI 1,oR b132,oI 3,oR b83,oI 2,oI 2,oI 0,oI 3] [vR b27d] st144 ?_
  have q145:=oL u35 (oT c80 sg_b66)
  have q146:=oL u35 (oT c79 sg_b56)
  have q147:=oL u35 (oT m50 sg_x45a)
  have q148:=oL u35 (oT c139 sg_b83)
  have G149:=((((((g27_8.ext E32).keep K70 (ninS (oM PE2.lt sz_b27d) nin0)).keep Kq82 (ninS q145 nin0)).ext E83).keep Kq119 (ninS q148 (ninS (oL u35 sg_x32a) (ninS q147 (ninS q146 nin0))))).ext E132)
  have l150:b17 < b27d:=oW u23 (oT m29 sg_b27d)
  have l151:b27d < b83:=oW u35 (oT c139 sg_b83)
  have l152:b83 < b132:=oW u133 sg_b132
  refine oX2 a0 [b12,b14,b17,b27d,b83,b132] [0,0,0,k22,0,k132] [] [] [5] [3,5] 6 [oR 0,oI 2,oI 3,oR 1,oR 2,oI 1,oR 5,oI 3,oR 4,oI 2,oI 2,oI 0,oI 3] [vR 3] [(3,.int,1,[vI 1]),(5,.boolean,3,[vI 0,vI 0,vI 0])] 197 [oR 0,oI 2,oI 3,oR 1,oR 2,oI 1,oR 5,oI 0,oI 1,oI 1,oI 1,oI 0,oI 3] [vI 2] [(5,[vI 0,vI 1,vI 0])] tt hZ hown X144 N142 e144 trivial trivial trivial (oA G149 (oA V_b132 trivial)) (Or.inr (oA l15 (oA l77 (oA l150 (oA l151 (oA l152 trivial)))))) (oA n_b132 trivial) rfl rfl (by decide +kernel) 25 (by decide +kernel) fun T153 h153 _ X153 N153 e153 K153 q153 M153=>?_
  have Kq153:Keep h132 h153 [b132]:=K153
  have KK153:Keep h0 h153 [b12]:=Keep.trans K132 Kq153 (allS (Or.inr sz_b132) all0)
  obtain ⟨-,v153_1,-⟩:=M153
  have V153_1:Arv Z h153 b132 k132 .boolean 3 [vI 0,vI 1,vI 0] (vI 0):=v153_1
  refine oV 197 #[oR b12,oI 2,oI 3,oR b14,oR b17,oI 1,oR b132,oI 0,oI 1,oI 1,oI 1,oI 0,oI 3] [vI 2] ?_
  obtain ⟨T154,h154,k154,X154,e154,E154,A154,EA154,st154⟩:=newPE (aty:=.boolean) X153 hx hZ (ow98 hw) e153 (g:=(mkF m 197 #[oR b12,oI 2,oI 3,oR b14,oR b17,oI 1,oR b132,oI 0,oI 1,oI 1,oI 1,oI 0,oI 3] [vI 2])) rfl (hb hby d1_197) rfl (by decide) (cap:=2) (by decide) (by decide) (by decide) (by decide) (ad:="[Z") (by decide +kernel)
  obtain ⟨b154,g_b154⟩:∃ z,z = h153.size:=⟨_,rfl⟩
  have sg_b154:h153.size≤b154:=Nat.le_of_eq g_b154.symm
  rw [← g_b154] at A154 EA154 st154
  have n_b154:=oT (oT (oT Zs130 E132.1) Kq153.1) sg_b154
  have sz_b154:=oT KK153.1 sg_b154
  have u155:=(oW V_b132.lt Kq153.1)
  have m156:h119.size≤h153.size:=(oT (oT (Nat.le_refl _) E132.1) Kq153.1)
  have K154:Keep h0 h154 [b12]:=KK153.ext E154
  have V_b154:Arv Z h154 b154 k154 .boolean 2 [vI 0,vI 0] (vI 0):=(Arv.new A154 (by decide)).pad (pad_rep [] (vI 0) 2)
  refine oJ 199 #[oR b12,oI 2,oI 3,oR b14,oR b17,oI 1,oR b132,oI 0,oI 1,oI 1,oI 1,oI 0,oI 3] [vR b154] st154 ?_
  have q157:=oL u46 (oT m61 sg_b56)
  have c158:=oT c86 m85
  have q159:=oL u46 (oT c158 sg_b83)
  have c160:=oT c158 m134
  have q161:=oL u46 (oT c160 sg_b132)
  have G162:=((((G88.keep Kq119 (ninS q159 (ninS (Ne.symm nn_x32a_b32) (ninS (oL u46 sg_x45a) (ninS q157 nin0))))).ext E132).keep Kq153 (ninS q161 nin0)).ext E154)
  have q163:=oL u18 (oT c93 sg_b56)
  have q164:=oL u18 (oT c92 sg_x45a)
  have q165:=oL u18 (oT c91 sg_x32a)
  have c166:=oT c94 m85
  have q167:=oL u18 (oT c166 sg_b83)
  have c168:=oT c166 m134
  have q169:=oL u18 (oT c168 sg_b132)
  have G170:=((((G96.keep Kq119 (ninS q167 (ninS q165 (ninS q164 (ninS q163 nin0))))).ext E132).keep Kq153 (ninS q169 nin0)).ext E154)
  have q171:=oL u48 (oT c86 sg_b66)
  have q172:=oL u48 (oT m61 sg_b56)
  have q173:=oL u48 (oT c158 sg_b83)
  have q174:=oL u48 (oT c160 sg_b132)
  have K175:Keep _ h154 [b66,b83,x32a,x45a,b56,b132]:=(Keep.trans ((Keep.trans ((Keep.trans (Keep.refl _ _) Kq82 (allS oI0 all0)).ext E83) Kq119 (allS oI1 (allS oI2 (allS oI3 (allS oI4 all0))))).ext E132) Kq153 (allS oI5 all0)).ext E154
  have G176:=((V_x32b.keep K70 (ninS (oM PE2.lt sz_x32b) nin0)).keep K175 (ninS q171 (ninS q173 (ninS nn_x32b_x32a (ninS (oL u48 sg_x45a) (ninS q172 (ninS q174 nin0)))))))
  have c177:=oT m68 m85
  have q178:=oL u57 (oT c177 sg_b83)
  have c179:=oT c177 m134
  have q180:=oL u57 (oT c179 sg_b132)
  have G181:=((((G100.keep Kq119 (ninS q178 (ninS (oM u47 sg_b45) (ninS (Ne.symm nn_x45a_b45) (ninS (oL u57 sg_b56) nin0))))).ext E132).keep Kq153 (ninS q180 nin0)).ext E154)
  have q182:=oL u59 (oT m68 sg_b66)
  have q183:=oL u59 (oT c177 sg_b83)
  have q184:=oL u59 (oT c179 sg_b132)
  have G185:=(((((V_x45b.other W52 (oM PE2.lt sz_x45b)).ext E56).other W63 (oM PE2.lt sz_x45b)).ext E66).keep K175 (ninS q182 (ninS q183 (ninS (oM u47 sg_x45b) (ninS nn_x45b_x45a (ninS (oL u59 sg_b56) (ninS q184 nin0)))))))
  have c186:=oT m85 m134
  have q187:=oL u67 (oT c186 sg_b132)
  have G188:=(((V119_7.ext E132).keep Kq153 (ninS q187 nin0)).ext E154)
  have G189:=((((G104.keep Kq119 (ninS (oL PE2.lt sz_b83) (ninS (oL PE2.lt sz_x32a) (ninS (oL PE2.lt sz_x45a) (ninS (oL PE2.lt sz_b56) nin0))))).ext E132).keep Kq153 (ninS (oL PE2.lt sz_b132) nin0)).ext E154)
  have G190:=((((G105.keep Kq119 (ninS (oL PE2.lt sz_b83) (ninS (oL PE2.lt sz_x32a) (ninS (oL PE2.lt sz_x45a) (ninS (oL PE2.lt sz_b56) nin0))))).ext E132).keep Kq153 (ninS (oL PE2.lt sz_b132) nin0)).ext E154)
  have G191:=((((G106.keep Kq119 (ninS (oL PE2.lt sz_b83) (ninS (oL PE2.lt sz_x32a) (ninS (oL PE2.lt sz_x45a) (ninS (oL PE2.lt sz_b56) nin0))))).ext E132).keep Kq153 (ninS (oL PE2.lt sz_b132) nin0)).ext E154)
  have l192:b56 < b132:=oW u67 (oT c186 sg_b132)
  have l193:b132 < b154:=oW u155 sg_b154
  refine oX2 a0 [b12,b14,b17,b32,x32a,x32b,x32c,b45,x45a,x45b,x45c,b56,b132,b154] [0,k14,0,k32,0,kc32,0,k45,0,kc45,0,k56,k132,k154] [fE1_26 0 (vR 3),fE1_29 0 (vR 7),fE1_32 0 (vR 11)] [] [13,5,9,11] [13,12,3,1,5,7,9,11] 14 [oR 0,oI 2,oI 3,oR 1,oR 2,oI 1,oR 12,oI 0,oI 1,oI 1,oI 1,oI 0,oI 3] [vR 13] [(13,.boolean,2,[vI 0,vI 0]),(12,.boolean,3,[vI 0,vI 1,vI 0]),(3,(.array .int),3,[vR 4,vR 5,vR 6]),(1,.int,4,[vI 0,vI 22,vI 43,vI 64]),(5,.int,3,[vI 0,vI 0,vI 0]),(7,(.array .int),3,[vR 8,vR 9,vR 10]),(9,.int,3,[vI 0,vI 0,vI 0]),(11,.int,3,[vI 22,vI 0,vI 0])] 132 [oR 0,oI 2,oI 3,oR 1,oR 2,oI 2,oR 12,oI 3,oR 13,oI 2,oI 2,oI 0,oI 3] [vR 2,vI 2] [(13,[vI 1,vI 0]),(5,[vI 21,vI 42,vI 0]),(9,[vI 21,vI 22,vI 21]),(11,[vI 22,vI 21,vI 0])] tt hZ hown X154 N153 e154 (oA (ow92 hw) (oA (ow94 hw) (oA (ow96 hw) trivial))) trivial (oA G189 (oA G190 (oA G191 trivial))) (oA V_b154 (oA (V153_1.ext E154) (oA G162 (oA G170 (oA G176 (oA G181 (oA G185 (oA G188 trivial)))))))) (Or.inr (oA l15 (oA l77 (oA l108 (oA l109 (oA l110 (oA l111 (oA l112 (oA l113 (oA l114 (oA l115 (oA l116 (oA l192 (oA l193 trivial)))))))))))))) (oA n_b154 (oA n_x32b (oA n_x45b (oA n_b56 trivial)))) rfl rfl (by decide +kernel) 232 (by decide +kernel) fun T194 h194 _ X194 N194 e194 K194 q194 M194=>?_
  have Kq194:Keep h154 h194 [b154,x32b,x45b,b56]:=K194
  have KK194:Keep h0 h194 [b12]:=Keep.trans K154 Kq194 (allS (Or.inr sz_b154) (allS (Or.inr sz_x32b) (allS (Or.inr sz_x45b) (allS (Or.inr sz_b56) all0))))
  obtain ⟨v194_0,-,-,-,v194_4,-,v194_6,v194_7,-⟩:=M194
  have V194_0:Arv Z h194 b154 k154 .boolean 2 [vI 1,vI 0] (vI 0):=v194_0
  have V194_4:Arv Z h194 x32b kc32 .int 3 [vI 21,vI 42,vI 0] (vI 0):=v194_4
  have V194_6:Arv Z h194 x45b kc45 .int 3 [vI 21,vI 22,vI 21] (vI 0):=v194_6
  have V194_7:Arv Z h194 b56 k56 .int 3 [vI 22,vI 21,vI 0] (vI 0):=v194_7
  refine oV 132 #[oR b12,oI 2,oI 3,oR b14,oR b17,oI 2,oR b132,oI 3,oR b154,oI 2,oI 2,oI 0,oI 3] [vR b17,vI 2] ?_
  have c195:=oT c127 m134
  have q196:=oL u23 (oT c195 sg_b132)
  have q197:=oL u23 (oT c120 sg_x45b)
  have q198:=oL u23 (oT c107 sg_x32b)
  have c199:=oT c195 m156
  have q200:=oL u23 (oT c199 sg_b154)
  have G201:=((((G129.ext E132).keep Kq153 (ninS q196 nin0)).ext E154).keep Kq194 (ninS q200 (ninS q198 (ninS q197 (ninS q124 nin0)))))
  refine own_cI X194 hx hZ hown e194 (ow82 hw) (ow83 hw) (mvT hZ (ow84 hw)) (ow85 hw) (ow86 hw) (ow87 hw) (ow88 hw) (ow54 hw) (ow13 hw) (ow89 hw) ((G69.keep K175).keep Kq194) (y:=mn11) (z:=mn10) (argsL:=[]) (rest:=[vI 2]) (W:=1) hml.symm (hb hby d1_132) (lenOf pd0 rfl) rfl (by decide) (rm12a48 l Z a0 hw [] b17 h194 n0 (oT (oT (oT (oT Zs130 E132.1) Kq153.1) E154.1) Kq194.1) G201) fun _ T202 _ X202 hQ202=>?_
  obtain ⟨rfl,N202q,hh202⟩:=hQ202
  have N202:=Fr.app N194 N202q
  obtain ⟨_,X202,N202⟩:=own_hide X202 N202
  refine oV 137 #[oR b12,oI 2,oI 3,oR b14,oR b17,oI 2,oR b132,oI 3,oR b154,oI 2,oI 2,oI 0,oI 3] [vI 3,vI 2] ?_
  refine oG X202 tt 2 141 #[oR b12,oI 2,oI 3,oR b14,oR b17,oI 2,oR b132,oI 3,oR b154,oI 2,oI 2,oI 0,oI 3] [vI 3] rfl ?_
  obtain ⟨T203,h203,k203,X203,e203,E203,A203,EA203,st203⟩:=newPE (aty:=.boolean) X202 hx hZ (ow98 hw) hh202 (g:=(mkF m 141 #[oR b12,oI 2,oI 3,oR b14,oR b17,oI 2,oR b132,oI 3,oR b154,oI 2,oI 2,oI 0,oI 3] [vI 3])) rfl (hb hby d1_141) rfl (by decide) (cap:=3) (by decide) (by decide) (by decide) (by decide) (ad:="[Z") (by decide +kernel)
  obtain ⟨b203,g_b203⟩:∃ z,z = h194.size:=⟨_,rfl⟩
  have sg_b203:h194.size≤b203:=Nat.le_of_eq g_b203.symm
  rw [← g_b203] at A203 EA203 st203
  have n_b203:=oT (oT (oT (oT (oT Zs130 E132.1) Kq153.1) E154.1) Kq194.1) sg_b203
  have sz_b203:=oT KK194.1 sg_b203
  have u204:=(oW V_b154.lt Kq194.1)
  have m205:h153.size≤h194.size:=(oT (oT (Nat.le_refl _) E154.1) Kq194.1)
  have K203:Keep h0 h203 [b12]:=KK194.ext E203
  have V_b203:Arv Z h203 b203 k203 .boolean 3 [vI 0,vI 0,vI 0] (vI 0):=(Arv.new A203 (by decide)).pad (pad_rep [] (vI 0) 3)
  refine oH st203 X203 tt 3 149 #[oR b12,oI 2,oI 3,oR b14,oR b17,oI 2,oR b203,oI 3,oR b154,oI 2,oI 2,oI 0,oI 3] [vI 2,vR b17] rfl ?_
  have G206:=((((G135.keep Kq153 (ninS q196 nin0)).ext E154).keep Kq194 (ninS q200 (ninS q198 (ninS q197 (ninS q124 nin0))))).ext E203)
  have c207:=oT c139 m134
  have q208:=oL u33 (oT c207 sg_b132)
  have q209:=oL u33 (oT m50 sg_x45b)
  have c210:=oT c207 m156
  have q211:=oL u33 (oT c210 sg_b154)
  have G212:=((((G141.keep Kq153 (ninS q208 nin0)).ext E154).keep Kq194 (ninS q211 (ninS (oL u33 sg_x32b) (ninS q209 (ninS q137 nin0))))).ext E203)
  have Zs213:n0≤h203.size:=(oT (oT (oT (oT (oT Zs130 E132.1) Kq153.1) E154.1) Kq194.1) E203.1)
  refine own_cI X203 hx hZ hown e203 (ow99 hw) (ow100 hw) (mvT hZ (ow101 hw)) (ow102 hw) (ow103 hw) (ow104 hw) (ow105 hw) (ow54 hw) (ow13 hw) (ow106 hw) (((G69.keep K175).keep Kq194).ext E203) (y:=mn16) (z:=mn15) (argsL:=[vI 2]) (rest:=[]) (W:=0) hml.symm (hb hby d1_149) (lenOf pd5 rfl) rfl (by decide) (rm13a57 l Z a0 hw [] b17 b27a k27b b27c b27d b27e h203 n0 Zs213 (((G69.keep K175).keep Kq194).ext E203) G206 (G201.ext E203) G212) fun _ T214 _ X214 hQ214=>?_
  obtain ⟨rfl,N214q,hh214⟩:=hQ214
  have N214:=Fr.app N202 N214q
  obtain ⟨_,X214,N214⟩:=own_hide X214 N214
  refine oV 154 #[oR b12,oI 2,oI 3,oR b14,oR b17,oI 2,oR b203,oI 3,oR b154,oI 2,oI 2,oI 0,oI 3] [vR b27e] ?_
  have G215:=(((((g27_11.ext E32).keep K70).keep K175).keep Kq194).ext E203)
  obtain ⟨T216,X216,e216,st216⟩:=castY X214 hx hZ hown (ow45 hw) hh214 (Ins.self G215) (g:=(mkF m 154 #[oR b12,oI 2,oI 3,oR b14,oR b17,oI 2,oR b203,oI 3,oR b154,oI 2,oI 2,oI 0,oI 3] [vR b27e])) rfl rfl (hb hby d1_154)
  refine oJ 157 #[oR b12,oI 2,oI 3,oR b14,oR b17,oI 2,oR b203,oI 3,oR b154,oI 2,oI 2,oI 0,oI 3] [vR b27e] st216 ?_
  have q217:=oL u36 (oT c80 sg_b66)
  have q218:=oL u36 (oT c79 sg_b56)
  have q219:=oL u36 (oT m50 sg_x45a)
  have q220:=oL u36 (oT c139 sg_b83)
  have q221:=oL u36 (oT c207 sg_b132)
  have q222:=oL u36 (oT m50 sg_x45b)
  have q223:=oL u36 (oT c210 sg_b154)
  have G224:=(((((g27_10.ext E32).keep K70 (ninS (oM PE2.lt sz_b27e) nin0)).keep K175 (ninS q217 (ninS q220 (ninS (oL u36 sg_x32a) (ninS q219 (ninS q218 (ninS q221 nin0))))))).keep Kq194 (ninS q223 (ninS (oL u36 sg_x32b) (ninS q222 (ninS q218 nin0))))).ext E203)
  have l225:b17 < b27e:=oW u23 (oT m29 sg_b27e)
  have l226:b27e < b154:=oW u36 (oT c210 sg_b154)
  have l227:b154 < b203:=oW u204 sg_b203
  refine oX2 a0 [b12,b14,b17,b27e,b154,b203] [0,0,0,k22,0,k203] [] [] [5] [3,5] 6 [oR 0,oI 2,oI 3,oR 1,oR 2,oI 2,oR 5,oI 3,oR 4,oI 2,oI 2,oI 0,oI 3] [vR 3] [(3,.int,1,[vI 2]),(5,.boolean,3,[vI 0,vI 0,vI 0])] 197 [oR 0,oI 2,oI 3,oR 1,oR 2,oI 2,oR 5,oI 0,oI 1,oI 1,oI 2,oI 0,oI 3] [vI 2] [(5,[vI 0,vI 0,vI 1])] tt hZ hown X216 N214 e216 trivial trivial trivial (oA G224 (oA V_b203 trivial)) (Or.inr (oA l15 (oA l77 (oA l225 (oA l226 (oA l227 trivial)))))) (oA n_b203 trivial) rfl rfl (by decide +kernel) 25 (by decide +kernel) fun T228 h228 _ X228 N228 e228 K228 q228 M228=>?_
  have Kq228:Keep h203 h228 [b203]:=K228
  have KK228:Keep h0 h228 [b12]:=Keep.trans K203 Kq228 (allS (Or.inr sz_b203) all0)
  obtain ⟨-,v228_1,-⟩:=M228
  have V228_1:Arv Z h228 b203 k203 .boolean 3 [vI 0,vI 0,vI 1] (vI 0):=v228_1
  refine oV 197 #[oR b12,oI 2,oI 3,oR b14,oR b17,oI 2,oR b203,oI 0,oI 1,oI 1,oI 2,oI 0,oI 3] [vI 2] ?_
  obtain ⟨T229,h229,k229,X229,e229,E229,A229,EA229,st229⟩:=newPE (aty:=.boolean) X228 hx hZ (ow98 hw) e228 (g:=(mkF m 197 #[oR b12,oI 2,oI 3,oR b14,oR b17,oI 2,oR b203,oI 0,oI 1,oI 1,oI 2,oI 0,oI 3] [vI 2])) rfl (hb hby d1_197) rfl (by decide) (cap:=2) (by decide) (by decide) (by decide) (by decide) (ad:="[Z") (by decide +kernel)
  obtain ⟨b229,g_b229⟩:∃ z,z = h228.size:=⟨_,rfl⟩
  have sg_b229:h228.size≤b229:=Nat.le_of_eq g_b229.symm
  rw [← g_b229] at A229 EA229 st229
  have n_b229:=oT (oT Zs213 Kq228.1) sg_b229
  have sz_b229:=oT KK228.1 sg_b229
  have u230:=(oW V_b203.lt Kq228.1)
  have m231:h194.size≤h228.size:=(oT (oT (Nat.le_refl _) E203.1) Kq228.1)
  have K229:Keep h0 h229 [b12]:=KK228.ext E229
  have V_b229:Arv Z h229 b229 k229 .boolean 2 [vI 0,vI 0] (vI 0):=(Arv.new A229 (by decide)).pad (pad_rep [] (vI 0) 2)
  refine oJ 199 #[oR b12,oI 2,oI 3,oR b14,oR b17,oI 2,oR b203,oI 0,oI 1,oI 1,oI 2,oI 0,oI 3] [vR b229] st229 ?_
  have c232:=oT c160 m156
  have q233:=oL u46 (oT c232 sg_b154)
  have c234:=oT c232 m205
  have q235:=oL u46 (oT c234 sg_b203)
  have G236:=((((G162.keep Kq194 (ninS q233 (ninS (Ne.symm nn_x32b_b32) (ninS (oL u46 sg_x45b) (ninS q157 nin0))))).ext E203).keep Kq228 (ninS q235 nin0)).ext E229)
  have q237:=oL u18 (oT c92 sg_x45b)
  have q238:=oL u18 (oT c91 sg_x32b)
  have c239:=oT c168 m156
  have q240:=oL u18 (oT c239 sg_b154)
  have c241:=oT c239 m205
  have q242:=oL u18 (oT c241 sg_b203)
  have G243:=((((G170.keep Kq194 (ninS q240 (ninS q238 (ninS q237 (ninS q163 nin0))))).ext E203).keep Kq228 (ninS q242 nin0)).ext E229)
  have q244:=oL u49 (oT c86 sg_b66)
  have q245:=oL u49 (oT m61 sg_b56)
  have q246:=oL u49 (oT c158 sg_b83)
  have q247:=oL u49 (oT c160 sg_b132)
  have q248:=oL u49 (oT c232 sg_b154)
  have q249:=oL u49 (oT c234 sg_b203)
  have G250:=((((((V_x32c.keep K70 (ninS (oM PE2.lt sz_x32c) nin0)).keep K175 (ninS q244 (ninS q246 (ninS nn_x32c_x32a (ninS (oL u49 sg_x45a) (ninS q245 (ninS q247 nin0))))))).keep Kq194 (ninS q248 (ninS nn_x32c_x32b (ninS (oL u49 sg_x45b) (ninS q245 nin0))))).ext E203).keep Kq228 (ninS q249 nin0)).ext E229)
  have c251:=oT c179 m156
  have q252:=oL u57 (oT c251 sg_b154)
  have c253:=oT c251 m205
  have q254:=oL u57 (oT c253 sg_b203)
  have G255:=((((G181.keep Kq194 (ninS q252 (ninS (oM u48 sg_b45) (ninS (Ne.symm nn_x45b_b45) (ninS (oL u57 sg_b56) nin0))))).ext E203).keep Kq228 (ninS q254 nin0)).ext E229)
  have q256:=oL u60 (oT m68 sg_b66)
  have q257:=oL u60 (oT c177 sg_b83)
  have q258:=oL u60 (oT c179 sg_b132)
  have q259:=oL u60 (oT c251 sg_b154)
  have q260:=oL u60 (oT c253 sg_b203)
  have G261:=(((((((((V_x45c.other W52 (oM PE2.lt sz_x45c)).ext E56).other W63 (oM PE2.lt sz_x45c)).ext E66).keep K175 (ninS q256 (ninS q257 (ninS (oM u47 sg_x45c) (ninS nn_x45c_x45a (ninS (oL u60 sg_b56) (ninS q258 nin0))))))).keep Kq194 (ninS q259 (ninS (oM u48 sg_x45c) (ninS nn_x45c_x45b (ninS (oL u60 sg_b56) nin0))))).ext E203).keep Kq228 (ninS q260 nin0)).ext E229)
  have c262:=oT c186 m156
  have c263:=oT c262 m205
  have q264:=oL u67 (oT c263 sg_b203)
  have G265:=(((V194_7.ext E203).keep Kq228 (ninS q264 nin0)).ext E229)
  have G266:=((((G189.keep Kq194 (ninS (oL PE2.lt sz_b154) (ninS (oL PE2.lt sz_x32b) (ninS (oL PE2.lt sz_x45b) (ninS (oL PE2.lt sz_b56) nin0))))).ext E203).keep Kq228 (ninS (oL PE2.lt sz_b203) nin0)).ext E229)
  have G267:=((((G190.keep Kq194 (ninS (oL PE2.lt sz_b154) (ninS (oL PE2.lt sz_x32b) (ninS (oL PE2.lt sz_x45b) (ninS (oL PE2.lt sz_b56) nin0))))).ext E203).keep Kq228 (ninS (oL PE2.lt sz_b203) nin0)).ext E229)
  have G268:=((((G191.keep Kq194 (ninS (oL PE2.lt sz_b154) (ninS (oL PE2.lt sz_x32b) (ninS (oL PE2.lt sz_x45b) (ninS (oL PE2.lt sz_b56) nin0))))).ext E203).keep Kq228 (ninS (oL PE2.lt sz_b203) nin0)).ext E229)
  have l269:b56 < b203:=oW u67 (oT c263 sg_b203)
  have l270:b203 < b229:=oW u230 sg_b229
  refine oX2 a0 [b12,b14,b17,b32,x32a,x32b,x32c,b45,x45a,x45b,x45c,b56,b203,b229] [0,k14,0,k32,0,0,kc32,k45,0,0,kc45,k56,k203,k229] [fE1_26 0 (vR 3),fE1_29 0 (vR 7),fE1_32 0 (vR 11)] [] [13,6,10,11] [13,12,3,1,6,7,10,11] 14 [oR 0,oI 2,oI 3,oR 1,oR 2,oI 2,oR 12,oI 0,oI 1,oI 1,oI 2,oI 0,oI 3] [vR 13] [(13,.boolean,2,[vI 0,vI 0]),(12,.boolean,3,[vI 0,vI 0,vI 1]),(3,(.array .int),3,[vR 4,vR 5,vR 6]),(1,.int,4,[vI 0,vI 22,vI 43,vI 64]),(6,.int,3,[vI 0,vI 0,vI 0]),(7,(.array .int),3,[vR 8,vR 9,vR 10]),(10,.int,3,[vI 0,vI 0,vI 0]),(11,.int,3,[vI 22,vI 21,vI 0])] 132 [oR 0,oI 2,oI 3,oR 1,oR 2,oI 3,oR 12,oI 3,oR 13,oI 2,oI 2,oI 0,oI 3] [vR 2,vI 3] [(13,[vI 1,vI 0]),(6,[vI 0,vI 42,vI 21]),(10,[vI 21,vI 22,vI 21]),(11,[vI 22,vI 21,vI 21])] tt hZ hown X229 N228 e229 (oA (ow92 hw) (oA (ow94 hw) (oA (ow96 hw) trivial))) trivial (oA G266 (oA G267 (oA G268 trivial))) (oA V_b229 (oA (V228_1.ext E229) (oA G236 (oA G243 (oA G250 (oA G255 (oA G261 (oA G265 trivial)))))))) (Or.inr (oA l15 (oA l77 (oA l108 (oA l109 (oA l110 (oA l111 (oA l112 (oA l113 (oA l114 (oA l115 (oA l116 (oA l269 (oA l270 trivial)))))))))))))) (oA n_b229 (oA n_x32c (oA n_x45c (oA n_b56 trivial)))) rfl rfl (by decide +kernel) 232 (by decide +kernel) fun T271 h271 _ X271 N271 e271 K271 q271 M271=>?_
  have Kq271:Keep h229 h271 [b229,x32c,x45c,b56]:=K271
  have KK271:Keep h0 h271 [b12]:=Keep.trans K229 Kq271 (allS (Or.inr sz_b229) (allS (Or.inr sz_x32c) (allS (Or.inr sz_x45c) (allS (Or.inr sz_b56) all0))))
  obtain ⟨v271_0,-,-,-,v271_4,-,v271_6,v271_7,-⟩:=M271
  have V271_0:Arv Z h271 b229 k229 .boolean 2 [vI 1,vI 0] (vI 0):=v271_0
  have V271_4:Arv Z h271 x32c kc32 .int 3 [vI 0,vI 42,vI 21] (vI 0):=v271_4
  have V271_6:Arv Z h271 x45c kc45 .int 3 [vI 21,vI 22,vI 21] (vI 0):=v271_6
  have V271_7:Arv Z h271 b56 k56 .int 3 [vI 22,vI 21,vI 21] (vI 0):=v271_7
  refine oV 132 #[oR b12,oI 2,oI 3,oR b14,oR b17,oI 3,oR b203,oI 3,oR b229,oI 2,oI 2,oI 0,oI 3] [vR b17,vI 3] ?_
  have c272:=oT c199 m205
  have q273:=oL u23 (oT c272 sg_b203)
  have q274:=oL u23 (oT c120 sg_x45c)
  have q275:=oL u23 (oT c107 sg_x32c)
  have c276:=oT c272 m231
  have q277:=oL u23 (oT c276 sg_b229)
  have G278:=((((G201.ext E203).keep Kq228 (ninS q273 nin0)).ext E229).keep Kq271 (ninS q277 (ninS q275 (ninS q274 (ninS q124 nin0)))))
  have G279:=((((((G69.keep K175).keep Kq194).ext E203).keep Kq228).ext E229).keep Kq271)
  refine own_cI X271 hx hZ hown e271 (ow82 hw) (ow83 hw) (mvT hZ (ow84 hw)) (ow85 hw) (ow86 hw) (ow87 hw) (ow88 hw) (ow54 hw) (ow13 hw) (ow89 hw) G279 (y:=mn11) (z:=mn10) (argsL:=[]) (rest:=[vI 3]) (W:=1) hml.symm (hb hby d1_132) (lenOf pd0 rfl) rfl (by decide) (rm12a48 l Z a0 hw [] b17 h271 n0 (oT (oT (oT Zs213 Kq228.1) E229.1) Kq271.1) G278) fun _ T280 _ X280 hQ280=>?_
  obtain ⟨rfl,N280q,hh280⟩:=hQ280
  have N280:=Fr.app N271 N280q
  obtain ⟨_,X280,N280⟩:=own_hide X280 N280
  refine oV 137 #[oR b12,oI 2,oI 3,oR b14,oR b17,oI 3,oR b203,oI 3,oR b229,oI 2,oI 2,oI 0,oI 3] [vI 3,vI 3] ?_
  refine oG X280 tt 3 343 #[oR b12,oI 2,oI 3,oR b14,oR b17,oI 3,oR b203,oI 3,oR b229,oI 2,oI 2,oI 0,oI 3] [vR b17,vR b12] rfl ?_
  refine own_cI X280 hx hZ hown hh280 (ow82 hw) (ow83 hw) (mvT hZ (ow84 hw)) (ow85 hw) (ow86 hw) (ow87 hw) (ow88 hw) (ow54 hw) (ow13 hw) (ow89 hw) G279 (y:=mn11) (z:=mn10) (argsL:=[]) (rest:=[vR b12]) (W:=1) hml.symm (hb hby d1_343) (lenOf pd0 rfl) rfl (by decide) (rm12a48 l Z a0 hw [] b17 h271 n0 (oT (oT (oT Zs213 Kq228.1) E229.1) Kq271.1) G278) fun _ T281 _ X281 hQ281=>?_
  obtain ⟨rfl,N281q,hh281⟩:=hQ281
  have N281:=Fr.app N280 N281q
  obtain ⟨_,X281,N281⟩:=own_hide X281 N281
  refine oV 348 #[oR b12,oI 2,oI 3,oR b14,oR b17,oI 3,oR b203,oI 3,oR b229,oI 2,oI 2,oI 0,oI 3] [vI 3,vR b12] ?_
  obtain ⟨T282,h282,k282,X282,e282,E282,A282,EA282,O282,st282⟩:=newRA X281 hx hZ (C:="[J") (ty:=.long) hown (by decide +kernel) (ow120 hw) (ow121 hw) hh281 (g:=(mkF m 348 #[oR b12,oI 2,oI 3,oR b14,oR b17,oI 3,oR b203,oI 3,oR b229,oI 2,oI 2,oI 0,oI 3] [vI 3,vR b12])) rfl (hb hby d1_348) rfl (by decide) (cap:=3) (by decide) (by decide) (by decide) (by decide) (ad:="[[J") (by decide +kernel)
  obtain ⟨b282,g_b282⟩:∃ z,z = h271.size:=⟨_,rfl⟩
  have sg_b282:h271.size≤b282:=Nat.le_of_eq g_b282.symm
  rw [← g_b282] at A282 EA282 st282
  have n_b282:=oT (oT (oT (oT Zs213 Kq228.1) E229.1) Kq271.1) sg_b282
  have sz_b282:=oT KK271.1 sg_b282
  have u283:=(oW V_b229.lt Kq271.1)
  have m284:h228.size≤h271.size:=(oT (oT (Nat.le_refl _) E229.1) Kq271.1)
  have K282:Keep h0 h282 [b12]:=KK271.ext E282
  have V_b282:Arv Z h282 b282 k282 (.array .long) 3 [.null,.null,.null] .null:=(Arv.new A282 (by decide)).pad (pad_rep [] .null 3)
  refine oJ 351 #[oR b12,oI 2,oI 3,oR b14,oR b17,oI 3,oR b203,oI 3,oR b229,oI 2,oI 2,oI 0,oI 3] [vR b282,vR b12] st282 ?_
  have K285:Keep _ h282 [b154,x32b,x45b,b56,b203,b229,x32c,x45c]:=(Keep.trans ((Keep.trans ((Keep.trans (Keep.refl _ _) Kq194 (allS oI0 (allS oI1 (allS oI2 (allS oI3 all0))))).ext E203) Kq228 (allS oI4 all0)).ext E229) Kq271 (allS oI5 (allS oI6 (allS (Or.inl (List.mem_of_getElem? (i:=7) rfl)) (allS oI3 all0))))).ext E282
  have G286:=(((((((((PF6.keep K39 (ninS (oL PE2.lt sz_b14) (ninS (oL PE2.lt sz_b17) (ninS (oL PE2.lt sz_b22) nin0)))).other W41 (Or.inr (sn_123_93 hw))).ext E45).other W52 (Or.inr (sn_123_95 hw))).ext E56).other W63 (Or.inr (sn_123_97 hw))).ext E66).keep K175 (ninS (oL PE2.lt sz_b66) (ninS (oL PE2.lt sz_b83) (ninS (oL PE2.lt sz_x32a) (ninS (oL PE2.lt sz_x45a) (ninS (oL PE2.lt sz_b56) (ninS (oL PE2.lt sz_b132) nin0))))))).keep K285 (ninS (oL PE2.lt sz_b154) (ninS (oL PE2.lt sz_x32b) (ninS (oL PE2.lt sz_x45b) (ninS (oL PE2.lt sz_b56) (ninS (oL PE2.lt sz_b203) (ninS (oL PE2.lt sz_b229) (ninS (oL PE2.lt sz_x32c) (ninS (oL PE2.lt sz_x45c) nin0)))))))))
  obtain ⟨T287,h287,X287,e287,W287,st287⟩:=putF X282 hx hZ hown (host:="") (Or.inl (ow122 hw)) Via.refl e282 G286 (((G38.keep K70).keep K175).keep K285) (Or.inr ⟨(ow123 hw),rfl,hnm⟩) (ow2 hw) (ty:=(.array (.array .long))) (by decide) rfl rfl (g:=(mkF m 351 #[oR b12,oI 2,oI 3,oR b14,oR b17,oI 3,oR b203,oI 3,oR b229,oI 2,oI 2,oI 0,oI 3] [vR b282,vR b12])) rfl rfl (hb hby d1_351)
  have Fw287:=Fld.same W287 G286
  have K287:Keep h0 h287 [b12]:=K282.wr W287 oI0
  have N287:=Fr.snoc X287 N281 n_b12
  refine oH st287 X287 tt 4 361 #[oR b12,oI 2,oI 3,oR b14,oR b17,oI 0,oR b203,oI 3,oR b229,oI 2,oI 2,oI 0,oI 3] [vR b17,vI 0] rfl ?_
  have G288:=((G278.ext E282).other W287 (Or.inl (oM PE2.lt sz_b17)))
  have Zs289:n0≤h287.size:=(oT (oT (oT (oT (oT Zs213 Kq228.1) E229.1) Kq271.1) E282.1) (Keep.of_wr W287).1)
  refine own_cI X287 hx hZ hown e287 (ow82 hw) (ow83 hw) (mvT hZ (ow84 hw)) (ow85 hw) (ow86 hw) (ow87 hw) (ow88 hw) (ow54 hw) (ow13 hw) (ow89 hw) ((G279.ext E282).wr W287) (y:=mn11) (z:=mn10) (argsL:=[]) (rest:=[vI 0]) (W:=1) hml.symm (hb hby d1_361) (lenOf pd0 rfl) rfl (by decide) (rm12a48 l Z a0 hw [] b17 h287 n0 Zs289 G288) fun _ T290 _ X290 hQ290=>?_
  obtain ⟨rfl,N290q,hh290⟩:=hQ290
  have N290:=Fr.app N287 N290q
  obtain ⟨_,X290,N290⟩:=own_hide X290 N290
  refine oV 366 #[oR b12,oI 2,oI 3,oR b14,oR b17,oI 0,oR b203,oI 3,oR b229,oI 2,oI 2,oI 0,oI 3] [vI 3,vI 0] ?_
  refine oX2 a0 [b17,b203,b229,b282,b12,b14] [0,0,0,0,0,0] [fE1_43 4 (vR 3)] [] [] [] 6 [oR 4,oI 2,oI 3,oR 5,oR 0,oI 0,oR 1,oI 3,oR 2,oI 2,oI 2,oI 0,oI 3] [vI 3,vI 0] [] 377 [oR 4,oI 2,oI 3,oR 5,oR 0,oI 0,oR 1,oI 3,oR 2,oI 2,oI 2,oI 0,oI 3] [vI 0,vI 0,vR 3] [] tt hZ hown X290 N290 hh290 (oA (ow122 hw) trivial) trivial (oA Fw287 trivial) trivial (Or.inl rfl) trivial rfl rfl (by decide +kernel) 5 (by decide +kernel) fun T291 h291 _ X291 N291 e291 K291 q291 M291=>?_
  have e291:=e291.trans (q291 rfl)
  refine oV 377 #[oR b12,oI 2,oI 3,oR b14,oR b17,oI 0,oR b203,oI 3,oR b229,oI 2,oI 2,oI 0,oI 3] [vI 0,vI 0,vR b282] ?_
  obtain ⟨T292,h292,k292,X292,e292,E292,A292,EA292,st292⟩:=newPE (aty:=.long) X291 hx hZ (ow124 hw) e291 (g:=(mkF m 377 #[oR b12,oI 2,oI 3,oR b14,oR b17,oI 0,oR b203,oI 3,oR b229,oI 2,oI 2,oI 0,oI 3] [vI 0,vI 0,vR b282])) rfl (hb hby d1_377) rfl (by decide) (cap:=0) (by decide) (by decide) (by decide) (by decide) (ad:="[J") (by decide +kernel)
  obtain ⟨b292,g_b292⟩:∃ z,z = h287.size:=⟨_,rfl⟩
  have sg_b292:h287.size≤b292:=Nat.le_of_eq g_b292.symm
  rw [← g_b292] at A292 EA292 st292
  have n_b292:=oT Zs289 sg_b292
  have sz_b292:=oT K287.1 sg_b292
  have u293:=(oW V_b282.lt (Keep.of_wr W287).1)
  have m294:h271.size≤h287.size:=(oT (oT (Nat.le_refl _) E282.1) (Keep.of_wr W287).1)
  have K292:Keep h0 h292 [b12]:=K287.ext E292
  have V_b292:Arv Z h292 b292 k292 .long 0 [] (.long (0:Int64)):=Arv.new A292 (by decide)
  refine oJ 379 #[oR b12,oI 2,oI 3,oR b14,oR b17,oI 0,oR b203,oI 3,oR b229,oI 2,oI 2,oI 0,oI 3] [vR b292,vI 0,vR b282] st292 ?_
  obtain ⟨T295,h295,X295,e295,W295,V295,st295⟩:=own_stR X292 hx hZ e292 ((V_b282.other W287 (oM PE2.lt sz_b282)).ext E292) (j:=(0:Int32)) ⟨by decide,by decide⟩ rfl rfl (fun cl Ar q=>Sto.ofVA Ar q O282 (Ins.self EA292)) 0 rfl (Nat.le_of_ble_eq_true rfl) (g:=(mkF m 379 #[oR b12,oI 2,oI 3,oR b14,oR b17,oI 0,oR b203,oI 3,oR b229,oI 2,oI 2,oI 0,oI 3] [vR b292,vI 0,vR b282])) rfl rfl (hb hby d1_379)
  have K295:Keep h0 h295 [b12]:=K292.wr W295 (Or.inr sz_b282)
  have V295s:Arv Z h295 b282 k282 (.array .long) 3 [vR b292,.null,.null] .null:=V295
  have N295:=Fr.snoc X295 N291 n_b282
  refine oH st295 X295 tt 9 361 #[oR b12,oI 2,oI 3,oR b14,oR b17,oI 1,oI 0,oI 3,oR b229,oI 2,oI 2,oI 0,oI 3] [vR b17,vI 1] rfl ?_
  have c296:=oT c276 m284
  have q297:=oL u23 (oT c296 sg_b282)
  refine own_cI X295 hx hZ hown e295 (ow82 hw) (ow83 hw) (mvT hZ (ow84 hw)) (ow85 hw) (ow86 hw) (ow87 hw) (ow88 hw) (ow54 hw) (ow13 hw) (ow89 hw) ((((G279.ext E282).wr W287).ext E292).wr W295) (y:=mn11) (z:=mn10) (argsL:=[]) (rest:=[vI 1]) (W:=1) hml.symm (hb hby d1_361) (lenOf pd0 rfl) rfl (by decide) (rm12a48 l Z a0 hw [] b17 h295 n0 (oT (oT Zs289 E292.1) (Keep.of_wr W295).1) ((G288.ext E292).other W295 (Or.inl q297))) fun _ T298 _ X298 hQ298=>?_
  obtain ⟨rfl,N298q,hh298⟩:=hQ298
  have N298:=Fr.app N295 N298q
  obtain ⟨_,X298,N298⟩:=own_hide X298 N298
  refine oV 366 #[oR b12,oI 2,oI 3,oR b14,oR b17,oI 1,oI 0,oI 3,oR b229,oI 2,oI 2,oI 0,oI 3] [vI 3,vI 1] ?_
  have G299:=((Fw287.ext E292).other W295 (Or.inl (oL PE2.lt sz_b282)))
  refine oX2 a0 [b17,b229,b282,b12,b14] [0,0,0,0,0] [fE1_43 3 (vR 2)] [] [] [] 5 [oR 3,oI 2,oI 3,oR 4,oR 0,oI 1,oI 0,oI 3,oR 1,oI 2,oI 2,oI 0,oI 3] [vI 3,vI 1] [] 377 [oR 3,oI 2,oI 3,oR 4,oR 0,oI 1,oI 0,oI 3,oR 1,oI 2,oI 2,oI 0,oI 3] [vI 1,vI 1,vR 2] [] tt hZ hown X298 N298 hh298 (oA (ow122 hw) trivial) trivial (oA G299 trivial) trivial (Or.inl rfl) trivial rfl rfl (by decide +kernel) 5 (by decide +kernel) fun T300 h300 _ X300 N300 e300 K300 q300 M300=>?_
  have e300:=e300.trans (q300 rfl)
  refine oV 377 #[oR b12,oI 2,oI 3,oR b14,oR b17,oI 1,oI 0,oI 3,oR b229,oI 2,oI 2,oI 0,oI 3] [vI 1,vI 1,vR b282] ?_
  obtain ⟨T301,h301,k301,X301,e301,E301,A301,EA301,st301⟩:=newPE (aty:=.long) X300 hx hZ (ow124 hw) e300 (g:=(mkF m 377 #[oR b12,oI 2,oI 3,oR b14,oR b17,oI 1,oI 0,oI 3,oR b229,oI 2,oI 2,oI 0,oI 3] [vI 1,vI 1,vR b282])) rfl (hb hby d1_377) rfl (by decide) (cap:=1) (by decide) (by decide) (by decide) (by decide) (ad:="[J") (by decide +kernel)
  obtain ⟨b301,g_b301⟩:∃ z,z = h295.size:=⟨_,rfl⟩
  have sg_b301:h295.size≤b301:=Nat.le_of_eq g_b301.symm
  rw [← g_b301] at A301 EA301 st301
  have n_b301:=oT (oT (oT Zs289 E292.1) (Keep.of_wr W295).1) sg_b301
  have sz_b301:=oT K295.1 sg_b301
  have u302:=(oW V_b292.lt (Keep.of_wr W295).1)
  have m303:h287.size≤h295.size:=(oT (oT (Nat.le_refl _) E292.1) (Keep.of_wr W295).1)
  have K301:Keep h0 h301 [b12]:=K295.ext E301
  have V_b301:Arv Z h301 b301 k301 .long 1 [(.long (0:Int64))] (.long (0:Int64)):=(Arv.new A301 (by decide)).pad (pad_rep [] (.long (0:Int64)) 1)
  refine oJ 379 #[oR b12,oI 2,oI 3,oR b14,oR b17,oI 1,oI 0,oI 3,oR b229,oI 2,oI 2,oI 0,oI 3] [vR b301,vI 1,vR b282] st301 ?_
  obtain ⟨T304,h304,X304,e304,W304,V304,st304⟩:=own_stR X301 hx hZ e301 (V295s.ext E301) (j:=(1:Int32)) ⟨by decide,by decide⟩ rfl rfl (fun cl Ar q=>Sto.ofVA Ar q O282 (Ins.self EA301)) 1 rfl (Nat.le_of_ble_eq_true rfl) (g:=(mkF m 379 #[oR b12,oI 2,oI 3,oR b14,oR b17,oI 1,oI 0,oI 3,oR b229,oI 2,oI 2,oI 0,oI 3] [vR b301,vI 1,vR b282])) rfl rfl (hb hby d1_379)
  have K304:Keep h0 h304 [b12]:=K301.wr W304 (Or.inr sz_b282)
  have V304s:Arv Z h304 b282 k282 (.array .long) 3 [vR b292,vR b301,.null] .null:=V304
  have N304:=Fr.snoc X304 N300 n_b282
  refine oJ 380 #[oR b12,oI 2,oI 3,oR b14,oR b17,oI 1,oI 0,oI 3,oR b229,oI 2,oI 2,oI 0,oI 3] [] st304 ?_
  have G305:=((G299.ext E301).other W304 (Or.inl (oL PE2.lt sz_b282)))
  refine oX2 a0 [b17,b229,b282,b292,b301,b12,b14] [0,0,k282,0,0,0,0] [fE1_43 5 (vR 2)] [] [] [2] 7 [oR 5,oI 2,oI 3,oR 6,oR 0,oI 1,oI 0,oI 3,oR 1,oI 2,oI 2,oI 0,oI 3] [] [(2,(.array .long),3,[vR 3,vR 4,.null])] 405 [oR 5,oI 2,oI 3,oR 6,oR 0,oI 1,oI 0,oI 3,oR 1,oI 2,oI 2,oI 0,oI 3] [vI 0,vR 5,vI 1,vR 5,vI 0,vR 4] [] tt hZ hown X304 N304 e304 (oA (ow122 hw) trivial) trivial (oA G305 trivial) (oA V304s trivial) (Or.inl rfl) trivial rfl rfl (by decide +kernel) 14 (by decide +kernel) fun T306 h306 _ X306 N306 e306 K306 q306 M306=>?_
  have e306:=e306.trans (q306 rfl)
  refine oV 405 #[oR b12,oI 2,oI 3,oR b14,oR b17,oI 1,oI 0,oI 3,oR b229,oI 2,oI 2,oI 0,oI 3] [vI 0,vR b12,vI 1,vR b12,vI 0,vR b301] ?_
  have G307:=(((((((G266.keep Kq271 (ninS (oL PE2.lt sz_b229) (ninS (oL PE2.lt sz_x32c) (ninS (oL PE2.lt sz_x45c) (ninS (oL PE2.lt sz_b56) nin0))))).ext E282).other W287 (Or.inr (sn_93_123 hw))).ext E292).other W295 (Or.inl (oL PE2.lt sz_b282))).ext E301).other W304 (Or.inl (oL PE2.lt sz_b282)))
  have G308:=(((((((G267.keep Kq271 (ninS (oL PE2.lt sz_b229) (ninS (oL PE2.lt sz_x32c) (ninS (oL PE2.lt sz_x45c) (ninS (oL PE2.lt sz_b56) nin0))))).ext E282).other W287 (Or.inr (sn_95_123 hw))).ext E292).other W295 (Or.inl (oL PE2.lt sz_b282))).ext E301).other W304 (Or.inl (oL PE2.lt sz_b282)))
  have G309:=(((((((G268.keep Kq271 (ninS (oL PE2.lt sz_b229) (ninS (oL PE2.lt sz_x32c) (ninS (oL PE2.lt sz_x45c) (ninS (oL PE2.lt sz_b56) nin0))))).ext E282).other W287 (Or.inr (sn_97_123 hw))).ext E292).other W295 (Or.inl (oL PE2.lt sz_b282))).ext E301).other W304 (Or.inl (oL PE2.lt sz_b282)))
  have c310:=oT c234 m231
  have q311:=oL u46 (oT c310 sg_b229)
  have c312:=oT c310 m284
  have q313:=oL u46 (oT c312 sg_b282)
  have G314:=(((((((G236.keep Kq271 (ninS q311 (ninS (Ne.symm nn_x32c_b32) (ninS (oL u46 sg_x45c) (ninS q157 nin0))))).ext E282).other W287 (oM PE2.lt sz_b32)).ext E292).other W295 q313).ext E301).other W304 q313)
  have q315:=oL u47 (oT c160 sg_b132)
  have q316:=oL u47 (oT m61 sg_b56)
  have q317:=oL u47 (oT c232 sg_b154)
  have q318:=oL u47 (oT c234 sg_b203)
  have q319:=oL u47 (oT c310 sg_b229)
  have q320:=oL u47 (oT c312 sg_b282)
  have G321:=(((((((((V119_4.ext E132).keep Kq153 (ninS q315 nin0)).ext E154).keep K285 (ninS q317 (ninS (Ne.symm nn_x32b_x32a) (ninS (oL u47 sg_x45b) (ninS q316 (ninS q318 (ninS q319 (ninS (Ne.symm nn_x32c_x32a) (ninS (oL u47 sg_x45c) nin0))))))))).other W287 (oM PE2.lt sz_x32a)).ext E292).other W295 q320).ext E301).other W304 q320)
  have c322:=oT c253 m231
  have q323:=oL u57 (oT c322 sg_b229)
  have c324:=oT c322 m284
  have q325:=oL u57 (oT c324 sg_b282)
  have G326:=(((((((G255.keep Kq271 (ninS q323 (ninS (oM u49 sg_b45) (ninS (Ne.symm nn_x45c_b45) (ninS (oL u57 sg_b56) nin0))))).ext E282).other W287 (oM PE2.lt sz_b45)).ext E292).other W295 q325).ext E301).other W304 q325)
  have q327:=oL u58 (oT c179 sg_b132)
  have q328:=oL u58 (oT c251 sg_b154)
  have q329:=oL u58 (oT c253 sg_b203)
  have q330:=oL u58 (oT c322 sg_b229)
  have q331:=oL u58 (oT c324 sg_b282)
  have G332:=(((((((((V119_6.ext E132).keep Kq153 (ninS q327 nin0)).ext E154).keep K285 (ninS q328 (ninS (oM u48 sg_x45a) (ninS (Ne.symm nn_x45b_x45a) (ninS (oL u58 sg_b56) (ninS q329 (ninS q330 (ninS (oM u49 sg_x45a) (ninS (Ne.symm nn_x45c_x45a) nin0))))))))).other W287 (oM PE2.lt sz_x45a)).ext E292).other W295 q331).ext E301).other W304 q331)
  have c333:=oT c263 m231
  have c334:=oT c333 m284
  have q335:=oL u67 (oT c334 sg_b282)
  have G336:=((((((V271_7.ext E282).other W287 (oM PE2.lt sz_b56)).ext E292).other W295 q335).ext E301).other W304 q335)
  have Zs337:n0≤h304.size:=(oT (oT (oT (oT Zs289 E292.1) (Keep.of_wr W295).1) E301.1) (Keep.of_wr W304).1)
  have G338:=((((((((G38.keep K70).keep K175).keep K285).wr W287).ext E292).wr W295).ext E301).wr W304)
  refine own_cP X306 hx hZ hown e306 (ow136 hw) (ow137 hw) (own_seli (mvT hZ (ow2 hw)) (Cond.privateMethod_at (mvP hZ (ow138 hw) (args:=#[]))) (mvT hZ (ow137 hw)) (by decide)) (ow138 hw) (ow3 hw) (ow139 hw) G338 (y:=mn20) (argsL:=[vI 0]) (rest:=[vI 1,vR b12,vI 0,vR b301]) (W:=4) hml.symm (hb hby d1_405) (lenOf pd4 rfl) rfl (by decide) (rm19a74 l Z a0 hw [] b12 b32 b45 b56 k32 x32a x32b x32c kc32 k45 x45a x45b x45c kc45 k56 h304 n0 Zs337 G307 G308 G309 G314 G321 G326 G332 G336) fun _ T339 _ X339 hQ339=>?_
  obtain ⟨rfl,N339q,hh339⟩:=hQ339
  have N339:=Fr.app N306 N339q
  obtain ⟨_,X339,N339⟩:=own_hide X339 N339
  refine oV 408 #[oR b12,oI 2,oI 3,oR b14,oR b17,oI 1,oI 0,oI 3,oR b229,oI 2,oI 2,oI 0,oI 3] [(.long (-4398046511104:Int64)),vI 1,vR b12,vI 0,vR b301] ?_
  have q340:=oL u48 (oT c234 sg_b203)
  have q341:=oL u48 (oT c310 sg_b229)
  have q342:=oL u48 (oT c312 sg_b282)
  have G343:=((((((((((V194_4.ext E203).keep Kq228 (ninS q340 nin0)).ext E229).keep Kq271 (ninS q341 (ninS (Ne.symm nn_x32c_x32b) (ninS (oL u48 sg_x45c) (ninS q172 nin0))))).ext E282).other W287 (oM PE2.lt sz_x32b)).ext E292).other W295 q342).ext E301).other W304 q342)
  have q344:=oL u59 (oT c253 sg_b203)
  have q345:=oL u59 (oT c322 sg_b229)
  have q346:=oL u59 (oT c324 sg_b282)
  have G347:=((((((((((V194_6.ext E203).keep Kq228 (ninS q344 nin0)).ext E229).keep Kq271 (ninS q345 (ninS (oM u49 sg_x45b) (ninS (Ne.symm nn_x45c_x45b) (ninS (oL u59 sg_b56) nin0))))).ext E282).other W287 (oM PE2.lt sz_x45b)).ext E292).other W295 q346).ext E301).other W304 q346)
  refine own_cV X339 hx hZ hown hh339 (ow140 hw) (ow127 hw) (notFace_of_selects (args:=#[]) (mvT hZ (ow129 hw))) (ow129 hw) (ow128 hw) (ow3 hw) (ow130 hw) G338 (y:=mn18) (z:=mn18) (argsL:=[vI 1,(.long (-4398046511104:Int64))]) (rest:=[vI 0,vR b301]) (W:=2) hml.symm (hb hby d1_408) (lenOf pd12 rfl) rfl (by decide) (rm17a75 l Z a0 hw [] b12 (-4398046511104:Int64) b32 b45 k32 x32a x32b x32c kc32 k45 x45a x45b x45c kc45 h304 n0 Zs337 G307 G308 G314 G343 G326 G347) fun _ T348 _ X348 hQ348=>?_
  obtain ⟨rfl,N348q,hh348⟩:=hQ348
  have N348:=Fr.app N339 N348q
  obtain ⟨_,X348,N348⟩:=own_hide X348 N348
  refine oV 411 #[oR b12,oI 2,oI 3,oR b14,oR b17,oI 1,oI 0,oI 3,oR b229,oI 2,oI 2,oI 0,oI 3] [(.long (8796090925056:Int64)),vI 0,vR b301] ?_
  have q349:=oM u293 (oT m303 sg_b301)
  obtain ⟨T350,h350,X350,e350,W350,V350,st350⟩:=own_stJ X348 hx hZ hh348 (V_b301.other W304 q349) (j:=(0:Int32)) ⟨by decide,by decide⟩ 0 rfl (Nat.le_of_ble_eq_true rfl) (g:=(mkF m 411 #[oR b12,oI 2,oI 3,oR b14,oR b17,oI 1,oI 0,oI 3,oR b229,oI 2,oI 2,oI 0,oI 3] [(.long (8796090925056:Int64)),vI 0,vR b301])) rfl rfl (hb hby d1_411)
  have K350:Keep h0 h350 [b12]:=K304.wr W350 (Or.inr sz_b301)
  have V350s:Arv Z h350 b301 k301 .long 1 [(.long (8796090925056:Int64))] (.long (0:Int64)):=V350
  have N350:=Fr.snoc X350 N348 n_b301
  refine oH st350 X350 tt 9 361 #[oR b12,oI 2,oI 3,oR b14,oR b17,oI 2,oI 1,oI 3,oR b229,oI 2,oI 2,oI 0,oI 3] [vR b17,vI 2] rfl ?_
  have c351:=oT c296 m294
  have c352:=oT c351 m303
  have q353:=oL u23 (oT c352 sg_b301)
  have K354:Keep _ h350 [b12,b282,b301]:=((((((Keep.refl _ _).wr W287 oI0).ext E292).wr W295 oI1).ext E301).wr W304 oI1).wr W350 oI2
  have G355:=(((((G288.ext E292).other W295 (Or.inl q297)).ext E301).other W304 (Or.inl q297)).other W350 (Or.inl q353))
  have G356:=(((((((G279.ext E282).wr W287).ext E292).wr W295).ext E301).wr W304).wr W350)
  refine own_cI X350 hx hZ hown e350 (ow82 hw) (ow83 hw) (mvT hZ (ow84 hw)) (ow85 hw) (ow86 hw) (ow87 hw) (ow88 hw) (ow54 hw) (ow13 hw) (ow89 hw) G356 (y:=mn11) (z:=mn10) (argsL:=[]) (rest:=[vI 2]) (W:=1) hml.symm (hb hby d1_361) (lenOf pd0 rfl) rfl (by decide) (rm12a48 l Z a0 hw [] b17 h350 n0 (oT Zs337 (Keep.of_wr W350).1) G355) fun _ T357 _ X357 hQ357=>?_
  obtain ⟨rfl,N357q,hh357⟩:=hQ357
  have N357:=Fr.app N350 N357q
  obtain ⟨_,X357,N357⟩:=own_hide X357 N357
  refine oV 366 #[oR b12,oI 2,oI 3,oR b14,oR b17,oI 2,oI 1,oI 3,oR b229,oI 2,oI 2,oI 0,oI 3] [vI 3,vI 2] ?_
  refine oX2 a0 [b17,b229,b282,b12,b14] [0,0,0,0,0] [fE1_43 3 (vR 2)] [] [] [] 5 [oR 3,oI 2,oI 3,oR 4,oR 0,oI 2,oI 1,oI 3,oR 1,oI 2,oI 2,oI 0,oI 3] [vI 3,vI 2] [] 377 [oR 3,oI 2,oI 3,oR 4,oR 0,oI 2,oI 1,oI 3,oR 1,oI 2,oI 2,oI 0,oI 3] [vI 2,vI 2,vR 2] [] tt hZ hown X357 N357 hh357 (oA (ow122 hw) trivial) trivial (oA (G305.other W350 (Or.inl (oL PE2.lt sz_b301))) trivial) trivial (Or.inl rfl) trivial rfl rfl (by decide +kernel) 5 (by decide +kernel) fun T358 h358 _ X358 N358 e358 K358 q358 M358=>?_
  have e358:=e358.trans (q358 rfl)
  refine oV 377 #[oR b12,oI 2,oI 3,oR b14,oR b17,oI 2,oI 1,oI 3,oR b229,oI 2,oI 2,oI 0,oI 3] [vI 2,vI 2,vR b282] ?_
  obtain ⟨T359,h359,k359,X359,e359,E359,A359,EA359,st359⟩:=newPE (aty:=.long) X358 hx hZ (ow124 hw) e358 (g:=(mkF m 377 #[oR b12,oI 2,oI 3,oR b14,oR b17,oI 2,oI 1,oI 3,oR b229,oI 2,oI 2,oI 0,oI 3] [vI 2,vI 2,vR b282])) rfl (hb hby d1_377) rfl (by decide) (cap:=2) (by decide) (by decide) (by decide) (by decide) (ad:="[J") (by decide +kernel)
  obtain ⟨b359,g_b359⟩:∃ z,z = h350.size:=⟨_,rfl⟩
  have sg_b359:h350.size≤b359:=Nat.le_of_eq g_b359.symm
  rw [← g_b359] at A359 EA359 st359
  have n_b359:=oT (oT Zs337 (Keep.of_wr W350).1) sg_b359
  have sz_b359:=oT K350.1 sg_b359
  have u360:=(oW (oW V_b301.lt (Keep.of_wr W304).1) (Keep.of_wr W350).1)
  have m361:h295.size≤h350.size:=(oT (oT (oT (Nat.le_refl _) E301.1) (Keep.of_wr W304).1) (Keep.of_wr W350).1)
  have K359:Keep h0 h359 [b12]:=K350.ext E359
  have V_b359:Arv Z h359 b359 k359 .long 2 [(.long (0:Int64)),(.long (0:Int64))] (.long (0:Int64)):=(Arv.new A359 (by decide)).pad (pad_rep [] (.long (0:Int64)) 2)
  refine oJ 379 #[oR b12,oI 2,oI 3,oR b14,oR b17,oI 2,oI 1,oI 3,oR b229,oI 2,oI 2,oI 0,oI 3] [vR b359,vI 2,vR b282] st359 ?_
  obtain ⟨T362,h362,X362,e362,W362,V362,st362⟩:=own_stR X359 hx hZ e359 ((V304s.other W350 (Ne.symm q349)).ext E359) (j:=(2:Int32)) ⟨by decide,by decide⟩ rfl rfl (fun cl Ar q=>Sto.ofVA Ar q O282 (Ins.self EA359)) 2 rfl (Nat.le_of_ble_eq_true rfl) (g:=(mkF m 379 #[oR b12,oI 2,oI 3,oR b14,oR b17,oI 2,oI 1,oI 3,oR b229,oI 2,oI 2,oI 0,oI 3] [vR b359,vI 2,vR b282])) rfl rfl (hb hby d1_379)
  have K362:Keep h0 h362 [b12]:=K359.wr W362 (Or.inr sz_b282)
  have V362s:Arv Z h362 b282 k282 (.array .long) 3 [vR b292,vR b301,vR b359] .null:=V362
  have N362:=Fr.snoc X362 N358 n_b282
  refine oJ 380 #[oR b12,oI 2,oI 3,oR b14,oR b17,oI 2,oI 1,oI 3,oR b229,oI 2,oI 2,oI 0,oI 3] [] st362 ?_
  have G363:=(((G305.other W350 (Or.inl (oL PE2.lt sz_b301))).ext E359).other W362 (Or.inl (oL PE2.lt sz_b282)))
  refine oX2 a0 [b17,b229,b282,b292,b301,b359,b12,b14] [0,0,k282,0,0,0,0,0] [fE1_43 6 (vR 2)] [] [] [2] 8 [oR 6,oI 2,oI 3,oR 7,oR 0,oI 2,oI 1,oI 3,oR 1,oI 2,oI 2,oI 0,oI 3] [] [(2,(.array .long),3,[vR 3,vR 4,vR 5])] 405 [oR 6,oI 2,oI 3,oR 7,oR 0,oI 2,oI 0,oI 3,oR 1,oI 2,oI 2,oI 0,oI 3] [vI 0,vR 6,vI 2,vR 6,vI 0,vR 5] [] tt hZ hown X362 N362 e362 (oA (ow122 hw) trivial) trivial (oA G363 trivial) (oA V362s trivial) (Or.inl rfl) trivial rfl rfl (by decide +kernel) 14 (by decide +kernel) fun T364 h364 _ X364 N364 e364 K364 q364 M364=>?_
  have e364:=e364.trans (q364 rfl)
  refine oV 405 #[oR b12,oI 2,oI 3,oR b14,oR b17,oI 2,oI 0,oI 3,oR b229,oI 2,oI 2,oI 0,oI 3] [vI 0,vR b12,vI 2,vR b12,vI 0,vR b359] ?_
  have G365:=(((G307.other W350 (Or.inl (oL PE2.lt sz_b301))).ext E359).other W362 (Or.inl (oL PE2.lt sz_b282)))
  have G366:=(((G308.other W350 (Or.inl (oL PE2.lt sz_b301))).ext E359).other W362 (Or.inl (oL PE2.lt sz_b282)))
  have G367:=(((G309.other W350 (Or.inl (oL PE2.lt sz_b301))).ext E359).other W362 (Or.inl (oL PE2.lt sz_b282)))
  have c368:=oT c312 m294
  have c369:=oT c368 m303
  have q370:=oL u46 (oT c369 sg_b301)
  have q371:=oL u47 (oT c369 sg_b301)
  have c372:=oT c324 m294
  have c373:=oT c372 m303
  have q374:=oL u57 (oT c373 sg_b301)
  have q375:=oL u58 (oT c373 sg_b301)
  have c376:=oT c334 m294
  have c377:=oT c376 m303
  have q378:=oL u67 (oT c377 sg_b301)
  refine own_cP X364 hx hZ hown e364 (ow136 hw) (ow137 hw) (own_seli (mvT hZ (ow2 hw)) (Cond.privateMethod_at (mvP hZ (ow138 hw) (args:=#[]))) (mvT hZ (ow137 hw)) (by decide)) (ow138 hw) (ow3 hw) (ow139 hw) (((G338.wr W350).ext E359).wr W362) (y:=mn20) (argsL:=[vI 0]) (rest:=[vI 2,vR b12,vI 0,vR b359]) (W:=4) hml.symm (hb hby d1_405) (lenOf pd4 rfl) rfl (by decide) (rm19a74 l Z a0 hw [] b12 b32 b45 b56 k32 x32a x32b x32c kc32 k45 x45a x45b x45c kc45 k56 h362 n0 (oT (oT (oT Zs337 (Keep.of_wr W350).1) E359.1) (Keep.of_wr W362).1) G365 G366 G367 (((G314.other W350 q370).ext E359).other W362 q313) (((G321.other W350 q371).ext E359).other W362 q320) (((G326.other W350 q374).ext E359).other W362 q325) (((G332.other W350 q375).ext E359).other W362 q331) (((G336.other W350 q378).ext E359).other W362 q335)) fun _ T379 _ X379 hQ379=>?_
  obtain ⟨rfl,N379q,hh379⟩:=hQ379
  have N379:=Fr.app N364 N379q
  obtain ⟨_,X379,N379⟩:=own_hide X379 N379
  refine oV 408 #[oR b12,oI 2,oI 3,oR b14,oR b17,oI 2,oI 0,oI 3,oR b229,oI 2,oI 2,oI 0,oI 3] [(.long (-4398046511104:Int64)),vI 2,vR b12,vI 0,vR b359] ?_
  have q380:=oL u49 (oT c312 sg_b282)
  have q381:=oL u49 (oT c369 sg_b301)
  have G382:=((((V271_4.ext E282).keep K354 (ninS (oM PE2.lt sz_x32c) (ninS q380 (ninS q381 nin0)))).ext E359).other W362 q380)
  have q383:=oL u60 (oT c324 sg_b282)
  have q384:=oL u60 (oT c373 sg_b301)
  have G385:=((((V271_6.ext E282).keep K354 (ninS (oM PE2.lt sz_x45c) (ninS q383 (ninS q384 nin0)))).ext E359).other W362 q383)
  refine own_cV X379 hx hZ hown hh379 (ow140 hw) (ow127 hw) (notFace_of_selects (args:=#[]) (mvT hZ (ow129 hw))) (ow129 hw) (ow128 hw) (ow3 hw) (ow130 hw) (((G338.wr W350).ext E359).wr W362) (y:=mn18) (z:=mn18) (argsL:=[vI 2,(.long (-4398046511104:Int64))]) (rest:=[vI 0,vR b359]) (W:=2) hml.symm (hb hby d1_408) (lenOf pd12 rfl) rfl (by decide) (rm17a76 l Z a0 hw [] b12 (-4398046511104:Int64) b32 b45 k32 x32a x32b x32c kc32 k45 x45a x45b x45c kc45 h362 n0 (oT (oT (oT Zs337 (Keep.of_wr W350).1) E359.1) (Keep.of_wr W362).1) G365 G366 (((G314.other W350 q370).ext E359).other W362 q313) G382 (((G326.other W350 q374).ext E359).other W362 q325) G385) fun _ T386 _ X386 hQ386=>?_
  obtain ⟨rfl,N386q,hh386⟩:=hQ386
  have N386:=Fr.app N379 N386q
  obtain ⟨_,X386,N386⟩:=own_hide X386 N386
  refine oV 411 #[oR b12,oI 2,oI 3,oR b14,oR b17,oI 2,oI 0,oI 3,oR b229,oI 2,oI 2,oI 0,oI 3] [(.long (8796090925056:Int64)),vI 0,vR b359] ?_
  have c387:=oT m303 m361
  have q388:=oM u293 (oT c387 sg_b359)
  obtain ⟨T389,h389,X389,e389,W389,V389,st389⟩:=own_stJ X386 hx hZ hh386 (V_b359.other W362 q388) (j:=(0:Int32)) ⟨by decide,by decide⟩ 0 rfl (Nat.le_of_ble_eq_true rfl) (g:=(mkF m 411 #[oR b12,oI 2,oI 3,oR b14,oR b17,oI 2,oI 0,oI 3,oR b229,oI 2,oI 2,oI 0,oI 3] [(.long (8796090925056:Int64)),vI 0,vR b359])) rfl rfl (hb hby d1_411)
  have K389:Keep h0 h389 [b12]:=K362.wr W389 (Or.inr sz_b359)
  have V389s:Arv Z h389 b359 k359 .long 2 [(.long (8796090925056:Int64)),(.long (0:Int64))] (.long (0:Int64)):=V389
  have N389:=Fr.snoc X389 N386 n_b359
  refine oJ 412 #[oR b12,oI 2,oI 3,oR b14,oR b17,oI 2,oI 0,oI 3,oR b229,oI 2,oI 2,oI 0,oI 3] [] st389 ?_
  refine oX2 a0 [b17,b229,b282,b292,b301,b359,b12,b14] [0,0,k282,0,0,0,0,0] [fE1_43 6 (vR 2)] [] [] [2] 8 [oR 6,oI 2,oI 3,oR 7,oR 0,oI 2,oI 0,oI 3,oR 1,oI 2,oI 2,oI 0,oI 3] [] [(2,(.array .long),3,[vR 3,vR 4,vR 5])] 405 [oR 6,oI 2,oI 3,oR 7,oR 0,oI 2,oI 1,oI 3,oR 1,oI 2,oI 2,oI 0,oI 3] [vI 1,vR 6,vI 2,vR 6,vI 1,vR 5] [] tt hZ hown X389 N389 e389 (oA (ow122 hw) trivial) trivial (oA (G363.other W389 (Or.inl (oL PE2.lt sz_b359))) trivial) (oA (V362s.other W389 (Ne.symm q388)) trivial) (Or.inl rfl) trivial rfl rfl (by decide +kernel) 14 (by decide +kernel) fun T390 h390 _ X390 N390 e390 K390 q390 M390=>?_
  have e390:=e390.trans (q390 rfl)
  refine oV 405 #[oR b12,oI 2,oI 3,oR b14,oR b17,oI 2,oI 1,oI 3,oR b229,oI 2,oI 2,oI 0,oI 3] [vI 1,vR b12,vI 2,vR b12,vI 1,vR b359] ?_
  have c391:=oT c369 m361
  have q392:=oL u46 (oT c391 sg_b359)
  have G393:=((((G314.other W350 q370).ext E359).other W362 q313).other W389 q392)
  have q394:=oL u48 (oT c369 sg_b301)
  have q395:=oL u48 (oT c391 sg_b359)
  have G396:=((((G343.other W350 q394).ext E359).other W362 q342).other W389 q395)
  have c397:=oT c373 m361
  have q398:=oL u57 (oT c397 sg_b359)
  have G399:=((((G326.other W350 q374).ext E359).other W362 q325).other W389 q398)
  have q400:=oL u59 (oT c373 sg_b301)
  have q401:=oL u59 (oT c397 sg_b359)
  have G402:=((((G347.other W350 q400).ext E359).other W362 q346).other W389 q401)
  have c403:=oT c377 m361
  have q404:=oL u67 (oT c403 sg_b359)
  have G405:=((((G336.other W350 q378).ext E359).other W362 q335).other W389 q404)
  have Zs406:n0≤h389.size:=(oT (oT (oT (oT Zs337 (Keep.of_wr W350).1) E359.1) (Keep.of_wr W362).1) (Keep.of_wr W389).1)
  refine own_cP X390 hx hZ hown e390 (ow136 hw) (ow137 hw) (own_seli (mvT hZ (ow2 hw)) (Cond.privateMethod_at (mvP hZ (ow138 hw) (args:=#[]))) (mvT hZ (ow137 hw)) (by decide)) (ow138 hw) (ow3 hw) (ow139 hw) ((((G338.wr W350).ext E359).wr W362).wr W389) (y:=mn20) (argsL:=[vI 1]) (rest:=[vI 2,vR b12,vI 1,vR b359]) (W:=4) hml.symm (hb hby d1_405) (lenOf pd4 rfl) rfl (by decide) (rm19a77 l Z a0 hw [] b12 b32 b45 b56 k32 x32a x32b x32c kc32 k45 x45a x45b x45c kc45 k56 h389 n0 Zs406 (G365.other W389 (Or.inl (oL PE2.lt sz_b359))) (G366.other W389 (Or.inl (oL PE2.lt sz_b359))) (G367.other W389 (Or.inl (oL PE2.lt sz_b359))) G393 G396 G399 G402 G405) fun _ T407 _ X407 hQ407=>?_
  obtain ⟨rfl,N407q,hh407⟩:=hQ407
  have N407:=Fr.app N390 N407q
  obtain ⟨_,X407,N407⟩:=own_hide X407 N407
  refine oV 408 #[oR b12,oI 2,oI 3,oR b14,oR b17,oI 2,oI 1,oI 3,oR b229,oI 2,oI 2,oI 0,oI 3] [(.long (4398044413952:Int64)),vI 2,vR b12,vI 1,vR b359] ?_
  have q408:=oL u49 (oT c391 sg_b359)
  have q409:=oL u60 (oT c397 sg_b359)
  refine own_cV X407 hx hZ hown hh407 (ow140 hw) (ow127 hw) (notFace_of_selects (args:=#[]) (mvT hZ (ow129 hw))) (ow129 hw) (ow128 hw) (ow3 hw) (ow130 hw) ((((G338.wr W350).ext E359).wr W362).wr W389) (y:=mn18) (z:=mn18) (argsL:=[vI 2,(.long (4398044413952:Int64))]) (rest:=[vI 1,vR b359]) (W:=2) hml.symm (hb hby d1_408) (lenOf pd12 rfl) rfl (by decide) (rm17a76 l Z a0 hw [] b12 (4398044413952:Int64) b32 b45 k32 x32a x32b x32c kc32 k45 x45a x45b x45c kc45 h389 n0 Zs406 (G365.other W389 (Or.inl (oL PE2.lt sz_b359))) (G366.other W389 (Or.inl (oL PE2.lt sz_b359))) G393 (G382.other W389 q408) G399 (G385.other W389 q409)) fun _ T410 _ X410 hQ410=>?_
  obtain ⟨rfl,N410q,hh410⟩:=hQ410
  have N410:=Fr.app N407 N410q
  obtain ⟨_,X410,N410⟩:=own_hide X410 N410
  refine oV 411 #[oR b12,oI 2,oI 3,oR b14,oR b17,oI 2,oI 1,oI 3,oR b229,oI 2,oI 2,oI 0,oI 3] [(.long (2097151:Int64)),vI 1,vR b359] ?_
  obtain ⟨T411,h411,X411,e411,W411,V411,st411⟩:=own_stJ X410 hx hZ hh410 V389s (j:=(1:Int32)) ⟨by decide,by decide⟩ 1 rfl (Nat.le_of_ble_eq_true rfl) (g:=(mkF m 411 #[oR b12,oI 2,oI 3,oR b14,oR b17,oI 2,oI 1,oI 3,oR b229,oI 2,oI 2,oI 0,oI 3] [(.long (2097151:Int64)),vI 1,vR b359])) rfl rfl (hb hby d1_411)
  have K411:Keep h0 h411 [b12]:=K389.wr W411 (Or.inr sz_b359)
  have V411s:Arv Z h411 b359 k359 .long 2 [(.long (8796090925056:Int64)),(.long (2097151:Int64))] (.long (0:Int64)):=V411
  have N411:=Fr.snoc X411 N410 n_b359
  refine oH st411 X411 tt 9 361 #[oR b12,oI 2,oI 3,oR b14,oR b17,oI 3,oI 2,oI 3,oR b229,oI 2,oI 2,oI 0,oI 3] [vR b17,vI 3] rfl ?_
  have c412:=oT c352 m361
  have q413:=oL u23 (oT c412 sg_b359)
  have G414:=((((G355.ext E359).other W362 (Or.inl q297)).other W389 (Or.inl q413)).other W411 (Or.inl q413))
  refine own_cI X411 hx hZ hown e411 (ow82 hw) (ow83 hw) (mvT hZ (ow84 hw)) (ow85 hw) (ow86 hw) (ow87 hw) (ow88 hw) (ow54 hw) (ow13 hw) (ow89 hw) ((((G356.ext E359).wr W362).wr W389).wr W411) (y:=mn11) (z:=mn10) (argsL:=[]) (rest:=[vI 3]) (W:=1) hml.symm (hb hby d1_361) (lenOf pd0 rfl) rfl (by decide) (rm12a48 l Z a0 hw [] b17 h411 n0 (oT Zs406 (Keep.of_wr W411).1) G414) fun _ T415 _ X415 hQ415=>?_
  obtain ⟨rfl,N415q,hh415⟩:=hQ415
  have N415:=Fr.app N411 N415q
  obtain ⟨_,X415,N415⟩:=own_hide X415 N415
  refine oV 366 #[oR b12,oI 2,oI 3,oR b14,oR b17,oI 3,oI 2,oI 3,oR b229,oI 2,oI 2,oI 0,oI 3] [vI 3,vI 3] ?_
  refine oG X415 tt 1 424 #[oR b12,oI 2,oI 3,oR b14,oR b17,oI 3,oI 2,oI 3,oR b229,oI 2,oI 2,oI 0,oI 3] [] rfl ?_
  refine own_ret X415 (v:=none) (fun _=>rfl) Bs (fun fs hr=>X415.returnOut hx Br (hb hby d1_424) hr) ?_ (by decide) (by decide)
  unfold Q1a69
  have G416:=((G365.other W389 (Or.inl (oL PE2.lt sz_b359))).other W411 (Or.inl (oL PE2.lt sz_b359)))
  have G417:=((G366.other W389 (Or.inl (oL PE2.lt sz_b359))).other W411 (Or.inl (oL PE2.lt sz_b359)))
  have G418:=((((((((EE_b32.keep K70).keep K175).keep K285).keep K354).ext E359).wr W362).wr W389).wr W411)
  have q419:=oL u47 (oT c391 sg_b359)
  have G420:=(((((G321.other W350 q371).ext E359).other W362 q320).other W389 q419).other W411 q419)
  have G421:=((((((((EE_x32a.keep K70).keep K175).keep K285).keep K354).ext E359).wr W362).wr W389).wr W411)
  have G422:=((((((((EE_x32b.keep K70).keep K175).keep K285).keep K354).ext E359).wr W362).wr W389).wr W411)
  have G423:=((((((((EE_x32c.keep K70).keep K175).keep K285).keep K354).ext E359).wr W362).wr W389).wr W411)
  have G424:=(((((((((((EE_b45.wr W52).ext E56).wr W63).ext E66).keep K175).keep K285).keep K354).ext E359).wr W362).wr W389).wr W411)
  have q425:=oL u58 (oT c397 sg_b359)
  have G426:=(((((G332.other W350 q375).ext E359).other W362 q331).other W389 q425).other W411 q425)
  have G427:=(((((((((((EE_x45a.wr W52).ext E56).wr W63).ext E66).keep K175).keep K285).keep K354).ext E359).wr W362).wr W389).wr W411)
  have G428:=(((((((((((EE_x45b.wr W52).ext E56).wr W63).ext E66).keep K175).keep K285).keep K354).ext E359).wr W362).wr W389).wr W411)
  have G429:=(((((((((((EE_x45c.wr W52).ext E56).wr W63).ext E66).keep K175).keep K285).keep K354).ext E359).wr W362).wr W389).wr W411)
  rw [hh415]
  exact ⟨b32,k32,x32a,kc32,x32b,x32c,b45,k45,x45a,kc45,x45b,x45c,rfl,N415,K411,n_b32,sz_b32,n_x32a,sz_x32a,n_x32b,sz_x32b,n_x32c,sz_x32c,n_b45,sz_b45,n_x45a,sz_x45a,n_x45b,sz_x45b,n_x45c,sz_x45c,nn_x32a_b32,nn_x32b_b32,nn_x32b_x32a,nn_x32c_b32,nn_x32c_x32a,nn_x32c_x32b,(oM u46 sg_b45),(oM u47 sg_b45),(oM u48 sg_b45),(oM u49 sg_b45),(oM u46 sg_x45a),(oM u47 sg_x45a),(oM u48 sg_x45a),(oM u49 sg_x45a),nn_x45a_b45,(oM u46 sg_x45b),(oM u47 sg_x45b),(oM u48 sg_x45b),(oM u49 sg_x45b),nn_x45b_b45,nn_x45b_x45a,(oM u46 sg_x45c),(oM u47 sg_x45c),(oM u48 sg_x45c),(oM u49 sg_x45c),nn_x45c_b45,nn_x45c_x45a,nn_x45c_x45b,G416,G417,(G393.other W411 q392),O32,G418,G420,G421,(G396.other W411 q395),G422,((G382.other W389 q408).other W411 q408),G423,(G399.other W411 q398),O45,G424,G426,G427,(G402.other W411 q401),G428,((G385.other W389 q409).other W411 q409),G429⟩
def Q18a78 (Z:State)(q2:Int64)(h0:Heap)(n0:Nat)(v:Option Value)(h:Heap)(L:List Loc):Prop:=v = some (.long q2)∧Fr n0 L∧h = h0
set_option maxRecDepth 65536 in
set_option maxHeartbeats 40000000 in
theorem rm18a78 (l:Launch)(Z:State)(a0:Array Value)(hw:HW a0 Z)(ws:List Jvm.Cond)(q2:Int64)(h0:Heap)(n0:Nat)(Z0:n0≤h0.size) :
    own_Met l mn19 method_3_code 12 (some .long) ws (oRm 0 0 0 0) #[vI 3,vI 0,(.long q2)] Z h0 (Q18a78 Z q2 h0 n0):=by
  refine own_met (own:="com/example/libakin/libakin/simhash/LayoutKeyPinLaw") rfl (plainFor_of_name pn_1) ?_
  intro p e s m below meth c s₁ hx hby hml hZ hown hnm X0 e0 Br Bs
  have N0:=Fr.nil n0
  have tt:=own_tt hx hby own_ok18
  refine oV 0 #[oI 3,oI 0,oQ q2,oS,oU,oU,oU,oU,oU,oU,oU,oU] [] ?_
  refine oG X0 tt 3 5 #[oI 3,oI 0,oQ q2,oS,oU,oU,oU,oU,oU,oU,oU,oU] [(.long q2)] rfl ?_
  refine own_ret X0 (v:=some (.long q2)) (oN Br) Bs (fun fs hr=>own_retL X0 hx Br (hb hby d18_5) hr) ?_ (by decide) (by decide)
  unfold Q18a78
  exact ⟨rfl,N0,e0⟩
theorem d18_113:decode method_3_code 113 = .ok (.lreturn,1):=by decide +kernel
def Q18a79 (Z:State)(q2:Int64)(h0:Heap)(n0:Nat)(v:Option Value)(h:Heap)(L:List Loc):Prop:=v = some (.long ((((((q2.toUInt64 >>> ((21:Int32) &&& 0x3f).toInt64.toUInt64).toInt64) &&& (2097151:Int64)) <<< ((43:Int32) &&& 0x3f).toInt64) ||| (((q2.toUInt64 >>> ((42:Int32) &&& 0x3f).toInt64.toUInt64).toInt64) <<< ((21:Int32) &&& 0x3f).toInt64)) ||| (q2 &&& (2097151:Int64))))∧Fr n0 L∧h = h0
set_option maxRecDepth 65536 in
set_option maxHeartbeats 40000000 in
theorem rm18a79 (l:Launch)(Z:State)(a0:Array Value)(hw:HW a0 Z)(ws:List Jvm.Cond)(q2:Int64)(h0:Heap)(n0:Nat)(Z0:n0≤h0.size) :
    own_Met l mn19 method_3_code 12 (some .long) ws (oRm 0 0 0 0) #[vI 3,vI 1,(.long q2)] Z h0 (Q18a79 Z q2 h0 n0):=by
  refine own_met (own:="com/example/libakin/libakin/simhash/LayoutKeyPinLaw") rfl (plainFor_of_name pn_1) ?_
  intro p e s m below meth c s₁ hx hby hml hZ hown hnm X0 e0 Br Bs
  have N0:=Fr.nil n0
  have tt:=own_tt hx hby own_ok18
  refine oV 0 #[oI 3,oI 1,oQ q2,oS,oU,oU,oU,oU,oU,oU,oU,oU] [] ?_
  refine oX3 a0 [] [] [] [(23,2097151)] [] [] 0 [oI 3,oI 1,oQ q2,oS,oU,oU,oU,oU,oU,oU,oU,oU] [] [] 113 [oI 3,oI 1,oQ q2,oS,oQ ((q2.toUInt64 >>> ((42:Int32) &&& 0x3f).toInt64.toUInt64).toInt64),oS,oQ (((q2.toUInt64 >>> ((21:Int32) &&& 0x3f).toInt64.toUInt64).toInt64) &&& (2097151:Int64)),oS,oQ (q2 &&& (2097151:Int64)),oS,oU,oU] [.long ((((((q2.toUInt64 >>> ((21:Int32) &&& 0x3f).toInt64.toUInt64).toInt64) &&& (2097151:Int64)) <<< ((43:Int32) &&& 0x3f).toInt64) ||| (((q2.toUInt64 >>> ((42:Int32) &&& 0x3f).toInt64.toUInt64).toInt64) <<< ((21:Int32) &&& 0x3f).toInt64)) ||| (q2 &&& (2097151:Int64)))] [] tt hZ hown X0 N0 e0 trivial (oA (ow142 hw) trivial) trivial trivial (Or.inl rfl) trivial rfl rfl (by decide +kernel) _ (oC 8 26 [oI 3,oI 1,oQ q2,oS,oU,oU,oU,oU,oU,oU,oU,oU] [] rfl (oC 8 38 [oI 3,oI 1,oQ q2,oS,oQ ((q2.toUInt64 >>> ((42:Int32) &&& 0x3f).toInt64.toUInt64).toInt64),oS,oU,oU,oU,oU,oU,oU] [.long q2] rfl (oC 8 52 [oI 3,oI 1,oQ q2,oS,oQ ((q2.toUInt64 >>> ((42:Int32) &&& 0x3f).toInt64.toUInt64).toInt64),oS,oQ (((q2.toUInt64 >>> ((21:Int32) &&& 0x3f).toInt64.toUInt64).toInt64) &&& (2097151:Int64)),oS,oU,oU,oU,oU] [.long (q2 &&& (2097151:Int64))] rfl (oC 8 101 [oI 3,oI 1,oQ q2,oS,oQ ((q2.toUInt64 >>> ((42:Int32) &&& 0x3f).toInt64.toUInt64).toInt64),oS,oQ (((q2.toUInt64 >>> ((21:Int32) &&& 0x3f).toInt64.toUInt64).toInt64) &&& (2097151:Int64)),oS,oQ (q2 &&& (2097151:Int64)),oS,oU,oU] [.long (((q2.toUInt64 >>> ((21:Int32) &&& 0x3f).toInt64.toUInt64).toInt64) &&& (2097151:Int64))] (n2:=8) rfl rfl)))) fun T4 h4 _ X4 N4 e4 K4 q4 M4=>?_
  have e4:=e4.trans (q4 rfl)
  refine oV 113 #[oI 3,oI 1,oQ q2,oS,oQ ((q2.toUInt64 >>> ((42:Int32) &&& 0x3f).toInt64.toUInt64).toInt64),oS,oQ (((q2.toUInt64 >>> ((21:Int32) &&& 0x3f).toInt64.toUInt64).toInt64) &&& (2097151:Int64)),oS,oQ (q2 &&& (2097151:Int64)),oS,oU,oU] [(.long ((((((q2.toUInt64 >>> ((21:Int32) &&& 0x3f).toInt64.toUInt64).toInt64) &&& (2097151:Int64)) <<< ((43:Int32) &&& 0x3f).toInt64) ||| (((q2.toUInt64 >>> ((42:Int32) &&& 0x3f).toInt64.toUInt64).toInt64) <<< ((21:Int32) &&& 0x3f).toInt64)) ||| (q2 &&& (2097151:Int64))))] ?_
  refine own_ret X4 (v:=some (.long ((((((q2.toUInt64 >>> ((21:Int32) &&& 0x3f).toInt64.toUInt64).toInt64) &&& (2097151:Int64)) <<< ((43:Int32) &&& 0x3f).toInt64) ||| (((q2.toUInt64 >>> ((42:Int32) &&& 0x3f).toInt64.toUInt64).toInt64) <<< ((21:Int32) &&& 0x3f).toInt64)) ||| (q2 &&& (2097151:Int64))))) (oN Br) Bs (fun fs hr=>own_retL X4 hx Br (hb hby d18_113) hr) ?_ (by decide) (by decide)
  unfold Q18a79
  exact ⟨rfl,N4,e4⟩
theorem d18_128:decode method_3_code 128 = .ok (.lreturn,1):=by decide +kernel
def Q18a80 (Z:State)(q2:Int64)(h0:Heap)(n0:Nat)(v:Option Value)(h:Heap)(L:List Loc):Prop:=v = some (.long ((((q2 &&& (2097151:Int64)) <<< ((43:Int32) &&& 0x3f).toInt64) ||| (((q2.toUInt64 >>> ((42:Int32) &&& 0x3f).toInt64.toUInt64).toInt64) <<< ((21:Int32) &&& 0x3f).toInt64)) ||| (((q2.toUInt64 >>> ((21:Int32) &&& 0x3f).toInt64.toUInt64).toInt64) &&& (2097151:Int64))))∧Fr n0 L∧h = h0
set_option maxRecDepth 65536 in
set_option maxHeartbeats 40000000 in
theorem rm18a80 (l:Launch)(Z:State)(a0:Array Value)(hw:HW a0 Z)(ws:List Jvm.Cond)(q2:Int64)(h0:Heap)(n0:Nat)(Z0:n0≤h0.size) :
    own_Met l mn19 method_3_code 12 (some .long) ws (oRm 0 0 0 0) #[vI 3,vI 2,(.long q2)] Z h0 (Q18a80 Z q2 h0 n0):=by
  refine own_met (own:="com/example/libakin/libakin/simhash/LayoutKeyPinLaw") rfl (plainFor_of_name pn_1) ?_
  intro p e s m below meth c s₁ hx hby hml hZ hown hnm X0 e0 Br Bs
  have N0:=Fr.nil n0
  have tt:=own_tt hx hby own_ok18
  refine oV 0 #[oI 3,oI 2,oQ q2,oS,oU,oU,oU,oU,oU,oU,oU,oU] [] ?_
  refine oX3 a0 [] [] [] [(23,2097151)] [] [] 0 [oI 3,oI 2,oQ q2,oS,oU,oU,oU,oU,oU,oU,oU,oU] [] [] 128 [oI 3,oI 2,oQ q2,oS,oQ ((q2.toUInt64 >>> ((42:Int32) &&& 0x3f).toInt64.toUInt64).toInt64),oS,oQ (((q2.toUInt64 >>> ((21:Int32) &&& 0x3f).toInt64.toUInt64).toInt64) &&& (2097151:Int64)),oS,oQ (q2 &&& (2097151:Int64)),oS,oU,oU] [.long ((((q2 &&& (2097151:Int64)) <<< ((43:Int32) &&& 0x3f).toInt64) ||| (((q2.toUInt64 >>> ((42:Int32) &&& 0x3f).toInt64.toUInt64).toInt64) <<< ((21:Int32) &&& 0x3f).toInt64)) ||| (((q2.toUInt64 >>> ((21:Int32) &&& 0x3f).toInt64.toUInt64).toInt64) &&& (2097151:Int64)))] [] tt hZ hown X0 N0 e0 trivial (oA (ow142 hw) trivial) trivial trivial (Or.inl rfl) trivial rfl rfl (by decide +kernel) _ (oC 8 26 [oI 3,oI 2,oQ q2,oS,oU,oU,oU,oU,oU,oU,oU,oU] [] rfl (oC 8 38 [oI 3,oI 2,oQ q2,oS,oQ ((q2.toUInt64 >>> ((42:Int32) &&& 0x3f).toInt64.toUInt64).toInt64),oS,oU,oU,oU,oU,oU,oU] [.long q2] rfl (oC 8 52 [oI 3,oI 2,oQ q2,oS,oQ ((q2.toUInt64 >>> ((42:Int32) &&& 0x3f).toInt64.toUInt64).toInt64),oS,oQ (((q2.toUInt64 >>> ((21:Int32) &&& 0x3f).toInt64.toUInt64).toInt64) &&& (2097151:Int64)),oS,oU,oU,oU,oU] [.long (q2 &&& (2097151:Int64))] rfl (oC 8 116 [oI 3,oI 2,oQ q2,oS,oQ ((q2.toUInt64 >>> ((42:Int32) &&& 0x3f).toInt64.toUInt64).toInt64),oS,oQ (((q2.toUInt64 >>> ((21:Int32) &&& 0x3f).toInt64.toUInt64).toInt64) &&& (2097151:Int64)),oS,oQ (q2 &&& (2097151:Int64)),oS,oU,oU] [.long (q2 &&& (2097151:Int64))] (n2:=8) rfl rfl)))) fun T4 h4 _ X4 N4 e4 K4 q4 M4=>?_
  have e4:=e4.trans (q4 rfl)
  refine oV 128 #[oI 3,oI 2,oQ q2,oS,oQ ((q2.toUInt64 >>> ((42:Int32) &&& 0x3f).toInt64.toUInt64).toInt64),oS,oQ (((q2.toUInt64 >>> ((21:Int32) &&& 0x3f).toInt64.toUInt64).toInt64) &&& (2097151:Int64)),oS,oQ (q2 &&& (2097151:Int64)),oS,oU,oU] [(.long ((((q2 &&& (2097151:Int64)) <<< ((43:Int32) &&& 0x3f).toInt64) ||| (((q2.toUInt64 >>> ((42:Int32) &&& 0x3f).toInt64.toUInt64).toInt64) <<< ((21:Int32) &&& 0x3f).toInt64)) ||| (((q2.toUInt64 >>> ((21:Int32) &&& 0x3f).toInt64.toUInt64).toInt64) &&& (2097151:Int64))))] ?_
  refine own_ret X4 (v:=some (.long ((((q2 &&& (2097151:Int64)) <<< ((43:Int32) &&& 0x3f).toInt64) ||| (((q2.toUInt64 >>> ((42:Int32) &&& 0x3f).toInt64.toUInt64).toInt64) <<< ((21:Int32) &&& 0x3f).toInt64)) ||| (((q2.toUInt64 >>> ((21:Int32) &&& 0x3f).toInt64.toUInt64).toInt64) &&& (2097151:Int64))))) (oN Br) Bs (fun fs hr=>own_retL X4 hx Br (hb hby d18_128) hr) ?_ (by decide) (by decide)
  unfold Q18a80
  exact ⟨rfl,N4,e4⟩
def Q6a85 (Z:State)(b3:Addr)(k4:ClassId)(h0:Heap)(n0:Nat)(v:Option Value)(h:Heap)(L:List Loc):Prop:=∃ (b5a:Addr)(k5b:ClassId)(b6:Addr),v = none∧Fr n0 L∧Keep h0 h [b3]∧n0≤b5a∧h0.size≤b5a∧n0≤b6∧h0.size≤b6∧b6≠b5a∧oF0 Z h b3 (vI 1)∧oF1 Z h b3 (vR b5a)∧oF2 Z h b3 (vI 1)∧Arv Z h b5a k5b (.object oOb) 10 [vR b6,.null,.null,.null,.null,.null,.null,.null,.null,.null] .null∧Ovr Z k5b oOb∧Arv Z h b6 k4 .int 3 [vI 0,vI 1,vI 2] (vI 0)∧Exa Z h b6 "[I"
set_option maxRecDepth 65536 in
set_option maxHeartbeats 40000000 in
theorem rm6a85 (l:Launch)(Z:State)(a0:Array Value)(hw:HW a0 Z)(ws:List Jvm.Cond)(b5 b6 wd:Addr)(kd k5:ClassId)(h0:Heap)(n0:Nat)(Z0:n0≤h0.size)(PS0:Sta Z h0 "java/util/ArrayList" "DEFAULTCAPACITY_EMPTY_ELEMENTDATA" "[Ljava/lang/Object;" (vR wd))(PV1:Arv Z h0 wd kd (.object oOb) 0 [] .null)(PE9:Exa Z h0 b6 "java/util/ArrayList")(PF10:oF0 Z h0 b6 (vI 0))(PF11:oF1 Z h0 b6 (vR wd))(PF12:oF2 Z h0 b6 (vI 0))(PV13:Arv Z h0 b5 k5 .int 3 [vI 0,vI 1,vI 2] (vI 0))(PE14:Exa Z h0 b5 "[I")(ne_wd_b6:wd≠b6)(n_b6:n0≤b6) :
    own_Met l mn9 prog_28_method_10_code 7 none ws (oRm 5 2 13 69) #[vI 4,vI 3,vI 3,vR b5,vI 3,vR b6] Z h0 (Q6a85 Z b6 k5 h0 n0):=by
  refine own_met (own:=oLy) rfl (plainFor_of_name pn_0) ?_
  intro p e s m below meth c s₁ hx hby hml hZ hown hnm X0 e0 Br Bs
  have N0:=Fr.nil n0
  have tt:=own_tt hx hby own_ok6
  refine oV 0 #[oI 4,oI 3,oI 3,oR b5,oI 3,oR b6,oU] [] ?_
  refine oG X0 tt 5 9 #[oI 4,oI 3,oI 3,oR b5,oI 3,oR b6,oU] [vR b5,vR b6] rfl ?_
  obtain ⟨T7,h7,X7,e7,E7,A7,EA7,st7⟩:=cloneH X0 hx hZ hown (ow38 hw) (ow39 hw) (ow43 hw) (ow41 hw) (ow42 hw) (ow44 hw) e0 (hs:=[]) PV13 PE14 (g:=(mkF m 9 #[oI 4,oI 3,oI 3,oR b5,oI 3,oR b6,oU] [vR b5,vR b6])) rfl hml.symm rfl (hb hby d6_9) (by decide) (W:=1) (cap:=3) (oZ rfl) (by decide) (by decide) (by decide) (by decide)
  obtain ⟨b7,g_b7⟩:∃ z,z = h0.size:=⟨_,rfl⟩
  have sg_b7:h0.size≤b7:=Nat.le_of_eq g_b7.symm
  rw [← g_b7] at A7 EA7 st7
  have n_b7:=oT Z0 sg_b7
  have sz_b7:=oT (Keep.refl h0 [b6]).1 sg_b7
  have K7:Keep h0 h7 [b6]:=(Keep.refl h0 [b6]).ext E7
  have V_b7:Arv Z h7 b7 k5 .int 3 [vI 0,vI 1,vI 2] (vI 0):=A7
  refine oJ 12 #[oI 4,oI 3,oI 3,oR b5,oI 3,oR b6,oU] [vR b7,vR b6] st7 ?_
  obtain ⟨T8,X8,e8,st8⟩:=castY X7 hx hZ hown (ow45 hw) e7 (Ins.self EA7) (g:=(mkF m 12 #[oI 4,oI 3,oI 3,oR b5,oI 3,oR b6,oU] [vR b7,vR b6])) rfl rfl (hb hby d6_12)
  refine oJ 15 #[oI 4,oI 3,oI 3,oR b5,oI 3,oR b6,oU] [vR b7,vR b6] st8 ?_
  refine own_cI X8 hx hZ hown e8 (ow47 hw) (ow48 hw) (mvT hZ (ow49 hw)) (ow50 hw) (ow51 hw) (ow52 hw) (ow53 hw) (ow54 hw) (ow13 hw) (ow55 hw) (PE9.ext E7) (y:=mn8) (z:=mn7) (argsL:=[vR b7]) (rest:=[]) (W:=0) hml.symm (hb hby d6_15) (lenOf pd13 rfl) rfl (by decide) (rm7a7 l Z a0 hw [] b6 b7 wd kd h7 n0 (oT Z0 E7.1) (PS0.ext E7) (PV1.ext E7) (PE9.ext E7) (PF10.ext E7) (PF11.ext E7) (PF12.ext E7) EA7 ne_wd_b6 n_b6) fun _ T15 _ X15 hQ15=>?_
  obtain ⟨b15a,k15b,rfl,N15q,K15,n_b15a,sg_b15a,g15_0,g15_1,g15_2,g15_3,g15_4⟩:=hQ15
  have N15:=Fr.app N0 N15q
  have sz_b15a:=oT K7.1 sg_b15a
  have u16:b7 < h7.size:=V_b7.lt
  have m17:h0.size≤h7.size:=(oT (Nat.le_refl _) E7.1)
  have eK15:T15.heap = T15.heap:=rfl
  have KK15:Keep h0 T15.heap [b6]:=Keep.trans K7 K15 (allS oI0 all0)
  obtain ⟨_,X15,N15⟩:=own_hide X15 N15
  refine oV 20 #[oI 4,oI 3,oI 3,oR b5,oI 3,oR b6,oU] [vI 1] ?_
  refine oG X15 tt 2 66 #[oI 4,oI 3,oI 3,oR b5,oI 3,oR b6,oU] [] rfl ?_
  refine own_ret X15 (v:=none) (fun _=>rfl) Bs (fun fs hr=>X15.returnOut hx Br (hb hby d6_66) hr) ?_ (by decide) (by decide)
  unfold Q6a85
  rw [eK15]
  exact ⟨b15a,k15b,b7,rfl,N15,KK15,n_b15a,sz_b15a,n_b7,sz_b7,(oL u16 sg_b15a),g15_0,g15_1,g15_2,g15_3,g15_4,(V_b7.keep K15 (ninS (oM PE9.lt sz_b7) nin0)),(EA7.keep K15)⟩
def Q6a86 (Z:State)(b3 b4a:Addr)(k5 k4b:ClassId)(b4c:Addr)(h0:Heap)(n0:Nat)(v:Option Value)(h:Heap)(L:List Loc):Prop:=∃ (b6:Addr),v = none∧Fr n0 L∧Keep h0 h [b4a,b3]∧n0≤b6∧h0.size≤b6∧Arv Z h b4a k4b (.object oOb) 10 [vR b4c,vR b6,.null,.null,.null,.null,.null,.null,.null,.null] .null∧oF0 Z h b3 (vI 2)∧oF1 Z h b3 (vR b4a)∧oF2 Z h b3 (vI 2)∧Arv Z h b6 k5 .int 3 [vI 0,vI 1,vI 3] (vI 0)∧Exa Z h b6 "[I"
set_option maxRecDepth 65536 in
set_option maxHeartbeats 40000000 in
theorem rm6a86 (l:Launch)(Z:State)(a0:Array Value)(hw:HW a0 Z)(ws:List Jvm.Cond)(b4 b5 b6a:Addr)(k4 k6b:ClassId)(b6c:Addr)(h0:Heap)(n0:Nat)(Z0:n0≤h0.size)(PE9:Exa Z h0 b5 "java/util/ArrayList")(PF10:oF0 Z h0 b5 (vI 1))(PF11:oF1 Z h0 b5 (vR b6a))(PF12:oF2 Z h0 b5 (vI 1))(PV13:Arv Z h0 b4 k4 .int 3 [vI 0,vI 1,vI 3] (vI 0))(PE14:Exa Z h0 b4 "[I")(PV15:Arv Z h0 b6a k6b (.object oOb) 10 [vR b6c,.null,.null,.null,.null,.null,.null,.null,.null,.null] .null)(ov_b6a:Ovr Z k6b oOb)(ne_b5_b6a:b5≠b6a)(ne_b6a_b5:b6a≠b5)(n_b5:n0≤b5)(n_b6a:n0≤b6a) :
    own_Met l mn9 prog_28_method_10_code 7 none ws (oRm 2 1 3 28) #[vI 4,vI 3,vI 4,vR b4,vI 3,vR b5] Z h0 (Q6a86 Z b5 b6a k4 k6b b6c h0 n0):=by
  refine own_met (own:=oLy) rfl (plainFor_of_name pn_0) ?_
  intro p e s m below meth c s₁ hx hby hml hZ hown hnm X0 e0 Br Bs
  have N0:=Fr.nil n0
  have tt:=own_tt hx hby own_ok6
  refine oV 0 #[oI 4,oI 3,oI 4,oR b4,oI 3,oR b5,oU] [] ?_
  refine oG X0 tt 5 9 #[oI 4,oI 3,oI 4,oR b4,oI 3,oR b5,oU] [vR b4,vR b5] rfl ?_
  obtain ⟨T7,h7,X7,e7,E7,A7,EA7,st7⟩:=cloneH X0 hx hZ hown (ow38 hw) (ow39 hw) (ow43 hw) (ow41 hw) (ow42 hw) (ow44 hw) e0 (hs:=[]) PV13 PE14 (g:=(mkF m 9 #[oI 4,oI 3,oI 4,oR b4,oI 3,oR b5,oU] [vR b4,vR b5])) rfl hml.symm rfl (hb hby d6_9) (by decide) (W:=1) (cap:=3) (oZ rfl) (by decide) (by decide) (by decide) (by decide)
  obtain ⟨b7,g_b7⟩:∃ z,z = h0.size:=⟨_,rfl⟩
  have sg_b7:h0.size≤b7:=Nat.le_of_eq g_b7.symm
  rw [← g_b7] at A7 EA7 st7
  have n_b7:=oT Z0 sg_b7
  have sz_b7:=oT (Keep.refl h0 [b6a,b5]).1 sg_b7
  have K7:Keep h0 h7 [b6a,b5]:=(Keep.refl h0 [b6a,b5]).ext E7
  have V_b7:Arv Z h7 b7 k4 .int 3 [vI 0,vI 1,vI 3] (vI 0):=A7
  refine oJ 12 #[oI 4,oI 3,oI 4,oR b4,oI 3,oR b5,oU] [vR b7,vR b5] st7 ?_
  obtain ⟨T8,X8,e8,st8⟩:=castY X7 hx hZ hown (ow45 hw) e7 (Ins.self EA7) (g:=(mkF m 12 #[oI 4,oI 3,oI 4,oR b4,oI 3,oR b5,oU] [vR b7,vR b5])) rfl rfl (hb hby d6_12)
  refine oJ 15 #[oI 4,oI 3,oI 4,oR b4,oI 3,oR b5,oU] [vR b7,vR b5] st8 ?_
  refine own_cI X8 hx hZ hown e8 (ow47 hw) (ow48 hw) (mvT hZ (ow49 hw)) (ow50 hw) (ow51 hw) (ow52 hw) (ow53 hw) (ow54 hw) (ow13 hw) (ow55 hw) (PE9.ext E7) (y:=mn8) (z:=mn7) (argsL:=[vR b7]) (rest:=[]) (W:=0) hml.symm (hb hby d6_15) (lenOf pd13 rfl) rfl (by decide) (rm7a23 l Z a0 hw [] b5 b7 b6a k6b b6c h7 n0 (oT Z0 E7.1) (PE9.ext E7) (PF10.ext E7) (PF11.ext E7) (PF12.ext E7) (PV15.ext E7) EA7 ov_b6a ne_b5_b6a ne_b6a_b5 n_b5 n_b6a) fun _ T16 _ X16 hQ16=>?_
  obtain ⟨rfl,N16q,K16,g16_0,g16_1,g16_2,g16_3⟩:=hQ16
  have N16:=Fr.app N0 N16q
  have eK16:T16.heap = T16.heap:=rfl
  have KK16:Keep h0 T16.heap [b6a,b5]:=Keep.trans K7 K16 (allS oI1 (allS oI0 all0))
  obtain ⟨_,X16,N16⟩:=own_hide X16 N16
  refine oV 20 #[oI 4,oI 3,oI 4,oR b4,oI 3,oR b5,oU] [vI 1] ?_
  refine oG X16 tt 2 66 #[oI 4,oI 3,oI 4,oR b4,oI 3,oR b5,oU] [] rfl ?_
  refine own_ret X16 (v:=none) (fun _=>rfl) Bs (fun fs hr=>X16.returnOut hx Br (hb hby d6_66) hr) ?_ (by decide) (by decide)
  unfold Q6a86
  have G17:=(V_b7.keep K16 (ninS (oM PE9.lt sz_b7) (ninS (oM PV15.lt sz_b7) nin0)))
  rw [eK16]
  exact ⟨b7,rfl,N16,KK16,n_b7,sz_b7,g16_3,g16_0,g16_1,g16_2,G17,(EA7.keep K16)⟩
def Q6a84 (Z:State)(b3 b4:Addr)(k3:ClassId)(h0:Heap)(n0:Nat)(v:Option Value)(h:Heap)(L:List Loc):Prop:=∃ (b5a:Addr)(k5b:ClassId)(b5c b6a:Addr),v = none∧Fr n0 L∧Keep h0 h [b3,b4]∧n0≤b5a∧h0.size≤b5a∧n0≤b5c∧h0.size≤b5c∧n0≤b6a∧h0.size≤b6a∧b5c≠b5a∧b6a≠b5a∧b6a≠b5c∧Arv Z h b3 k3 .int 3 [vI 0,vI 1,vI 3] (vI 0)∧oF0 Z h b4 (vI 2)∧oF1 Z h b4 (vR b5a)∧oF2 Z h b4 (vI 2)∧Arv Z h b5a k5b (.object oOb) 10 [vR b5c,vR b6a,.null,.null,.null,.null,.null,.null,.null,.null] .null∧Ovr Z k5b oOb∧Arv Z h b5c k3 .int 3 [vI 0,vI 1,vI 2] (vI 0)∧Exa Z h b5c "[I"∧Arv Z h b6a k3 .int 3 [vI 0,vI 1,vI 3] (vI 0)∧Exa Z h b6a "[I"
set_option maxRecDepth 65536 in
set_option maxHeartbeats 40000000 in
theorem rm6a84 (l:Launch)(Z:State)(a0:Array Value)(hw:HW a0 Z)(ws:List Jvm.Cond)(b7 b8 wd:Addr)(kd k7:ClassId)(h0:Heap)(n0:Nat)(Z0:n0≤h0.size)(PS0:Sta Z h0 "java/util/ArrayList" "DEFAULTCAPACITY_EMPTY_ELEMENTDATA" "[Ljava/lang/Object;" (vR wd))(PV1:Arv Z h0 wd kd (.object oOb) 0 [] .null)(PE9:Exa Z h0 b8 "java/util/ArrayList")(PF10:oF0 Z h0 b8 (vI 0))(PF11:oF1 Z h0 b8 (vR wd))(PF12:oF2 Z h0 b8 (vI 0))(PV13:Arv Z h0 b7 k7 .int 3 [vI 0,vI 1,vI 0] (vI 0))(PE14:Exa Z h0 b7 "[I")(ne_wd_b8:wd≠b8)(ne_wd_b7:wd≠b7)(ne_b8_b7:b8≠b7)(ne_b7_b8:b7≠b8)(n_b7:n0≤b7)(n_b8:n0≤b8) :
    own_Met l mn9 prog_28_method_10_code 7 none ws (oRm 6 3 16 87) #[vI 4,vI 3,vI 2,vR b7,vI 2,vR b8] Z h0 (Q6a84 Z b7 b8 k7 h0 n0):=by
  refine own_met (own:=oLy) rfl (plainFor_of_name pn_0) ?_
  intro p e s m below meth c s₁ hx hby hml hZ hown hnm X0 e0 Br Bs
  have N0:=Fr.nil n0
  have tt:=own_tt hx hby own_ok6
  refine oV 0 #[oI 4,oI 3,oI 2,oR b7,oI 2,oR b8,oU] [] ?_
  refine oG X0 tt 15 43 #[oI 4,oI 3,oI 2,oR b7,oI 2,oR b8,oI 2] [vI 2,vI 2,vR b7] rfl ?_
  obtain ⟨T15,h15,X15,e15,W15,V15,st15⟩:=own_stI X0 hx hZ e0 PV13 (j:=(2:Int32)) ⟨by decide,by decide⟩ 2 rfl (Nat.le_of_ble_eq_true rfl) (g:=(mkF m 43 #[oI 4,oI 3,oI 2,oR b7,oI 2,oR b8,oI 2] [vI 2,vI 2,vR b7])) rfl rfl (hb hby d6_43)
  have K15:Keep h0 h15 [b7,b8]:=(Keep.refl h0 [b7,b8]).wr W15 oI0
  have V15s:Arv Z h15 b7 k7 .int 3 [vI 0,vI 1,vI 2] (vI 0):=V15
  have N15:=Fr.snoc X15 N0 n_b7
  refine oH st15 X15 tt 10 57 #[oI 4,oI 3,oI 2,oR b7,oI 2,oR b8,oI 2] [vR b8,vI 3,vR b7,vI 3,vI 3,vI 4] rfl ?_
  refine own_cS X15 hx hZ hown e15 (ow35 hw) (ow36 hw) (ow3 hw) (ow37 hw) (y:=mn9) (argsL:=[vI 4,vI 3,vI 3,vR b7,vI 3,vR b8]) (rest:=[]) (W:=0) hml.symm (hb hby d6_57) (lenOf pd9 rfl) rfl (by decide) (rm6a85 l Z a0 hw [] b7 b8 wd kd k7 h15 n0 (oT Z0 (Keep.of_wr W15).1) (PS0.wr W15) (PV1.other W15 ne_wd_b7) (PE9.wr W15) (PF10.other W15 (Or.inl ne_b8_b7)) (PF11.other W15 (Or.inl ne_b8_b7)) (PF12.other W15 (Or.inl ne_b8_b7)) V15s (PE14.wr W15) ne_wd_b8 n_b8) fun _ T16 _ X16 hQ16=>?_
  obtain ⟨b16a,k16b,b16c,rfl,N16q,K16,n_b16a,sg_b16a,n_b16c,sg_b16c,ne16_0,g16_0,g16_1,g16_2,g16_3,g16_4,g16_5,g16_6⟩:=hQ16
  have N16:=Fr.app N15 N16q
  have sz_b16a:=oT K15.1 sg_b16a
  have sz_b16c:=oT K15.1 sg_b16c
  have eK16:T16.heap = T16.heap:=rfl
  have KK16:Keep h0 T16.heap [b7,b8]:=Keep.trans K15 K16 (allS oI1 all0)
  obtain ⟨_,X16,N16⟩:=own_hide X16 N16
  refine oV 60 #[oI 4,oI 3,oI 2,oR b7,oI 2,oR b8,oI 2] [] ?_
  refine oG X16 tt 12 43 #[oI 4,oI 3,oI 2,oR b7,oI 2,oR b8,oI 3] [vI 3,vI 2,vR b7] rfl ?_
  obtain ⟨T17,h17,X17,e17,W17,V17,st17⟩:=own_stI X16 hx hZ eK16 (V15s.keep K16 (ninS ne_b7_b8 nin0)) (j:=(2:Int32)) ⟨by decide,by decide⟩ 2 rfl (Nat.le_of_ble_eq_true rfl) (g:=(mkF m 43 #[oI 4,oI 3,oI 2,oR b7,oI 2,oR b8,oI 3] [vI 3,vI 2,vR b7])) rfl rfl (hb hby d6_43)
  have K17:Keep h0 h17 [b7,b8]:=KK16.wr W17 oI0
  have V17s:Arv Z h17 b7 k7 .int 3 [vI 0,vI 1,vI 3] (vI 0):=V17
  have N17:=Fr.snoc X17 N16 n_b7
  refine oH st17 X17 tt 10 57 #[oI 4,oI 3,oI 2,oR b7,oI 2,oR b8,oI 3] [vR b8,vI 3,vR b7,vI 4,vI 3,vI 4] rfl ?_
  refine own_cS X17 hx hZ hown e17 (ow35 hw) (ow36 hw) (ow3 hw) (ow37 hw) (y:=mn9) (argsL:=[vI 4,vI 3,vI 4,vR b7,vI 3,vR b8]) (rest:=[]) (W:=0) hml.symm (hb hby d6_57) (lenOf pd9 rfl) rfl (by decide) (rm6a86 l Z a0 hw [] b7 b8 b16a k7 k16b b16c h17 n0 (oT (oT (oT Z0 (Keep.of_wr W15).1) K16.1) (Keep.of_wr W17).1) (((PE9.wr W15).keep K16).wr W17) (g16_0.other W17 (Or.inl ne_b8_b7)) (g16_1.other W17 (Or.inl ne_b8_b7)) (g16_2.other W17 (Or.inl ne_b8_b7)) V17s (((PE14.wr W15).keep K16).wr W17) (g16_3.other W17 (oM PV13.lt sz_b16a)) g16_4 (oL PE9.lt sz_b16a) (oM PE9.lt sz_b16a) n_b8 n_b16a) fun _ T18 _ X18 hQ18=>?_
  obtain ⟨b18a,rfl,N18q,K18,n_b18a,sg_b18a,g18_0,g18_1,g18_2,g18_3,g18_4,g18_5⟩:=hQ18
  have N18:=Fr.app N17 N18q
  have sz_b18a:=oT K17.1 sg_b18a
  have u19:=(oW g16_3.lt (Keep.of_wr W17).1)
  have u20:=(oW g16_5.lt (Keep.of_wr W17).1)
  have m21:h15.size≤h17.size:=(oT (oT (Nat.le_refl _) K16.1) (Keep.of_wr W17).1)
  have eK18:T18.heap = T18.heap:=rfl
  have KK18:Keep h0 T18.heap [b7,b8]:=Keep.trans K17 K18 (allS (Or.inr sz_b16a) (allS oI1 all0))
  obtain ⟨_,X18,N18⟩:=own_hide X18 N18
  refine oV 60 #[oI 4,oI 3,oI 2,oR b7,oI 2,oR b8,oI 3] [] ?_
  refine oG X18 tt 9 66 #[oI 4,oI 3,oI 2,oR b7,oI 2,oR b8,oI 4] [] rfl ?_
  refine own_ret X18 (v:=none) (fun _=>rfl) Bs (fun fs hr=>X18.returnOut hx Br (hb hby d6_66) hr) ?_ (by decide) (by decide)
  unfold Q6a84
  have G22:=(V17s.keep K18 (ninS (oL PV13.lt sz_b16a) (ninS ne_b7_b8 nin0)))
  have G23:=((g16_5.other W17 (oM PV13.lt sz_b16c)).keep K18 (ninS ne16_0 (ninS (oM PE9.lt sz_b16c) nin0)))
  rw [eK18]
  exact ⟨b16a,k16b,b16c,b18a,rfl,N18,KK18,n_b16a,sz_b16a,n_b16c,sz_b16c,n_b18a,sz_b18a,ne16_0,(oM u19 sg_b18a),(oM u20 sg_b18a),G22,g18_1,g18_2,g18_3,g18_0,g16_4,G23,((g16_6.wr W17).keep K18),g18_4,g18_5⟩
def Q6a88 (Z:State)(b3 b4a:Addr)(k5 k4b:ClassId)(b4c b4d:Addr)(h0:Heap)(n0:Nat)(v:Option Value)(h:Heap)(L:List Loc):Prop:=∃ (b6:Addr),v = none∧Fr n0 L∧Keep h0 h [b4a,b3]∧n0≤b6∧h0.size≤b6∧Arv Z h b4a k4b (.object oOb) 10 [vR b4c,vR b4d,vR b6,.null,.null,.null,.null,.null,.null,.null] .null∧oF0 Z h b3 (vI 3)∧oF1 Z h b3 (vR b4a)∧oF2 Z h b3 (vI 3)∧Arv Z h b6 k5 .int 3 [vI 0,vI 2,vI 3] (vI 0)∧Exa Z h b6 "[I"
set_option maxRecDepth 65536 in
set_option maxHeartbeats 40000000 in
theorem rm6a88 (l:Launch)(Z:State)(a0:Array Value)(hw:HW a0 Z)(ws:List Jvm.Cond)(b4 b5 b6a:Addr)(k4 k6b:ClassId)(b6c b6d:Addr)(h0:Heap)(n0:Nat)(Z0:n0≤h0.size)(PE9:Exa Z h0 b5 "java/util/ArrayList")(PF10:oF0 Z h0 b5 (vI 2))(PF11:oF1 Z h0 b5 (vR b6a))(PF12:oF2 Z h0 b5 (vI 2))(PV13:Arv Z h0 b4 k4 .int 3 [vI 0,vI 2,vI 3] (vI 0))(PE14:Exa Z h0 b4 "[I")(PV15:Arv Z h0 b6a k6b (.object oOb) 10 [vR b6c,vR b6d,.null,.null,.null,.null,.null,.null,.null,.null] .null)(ov_b6a:Ovr Z k6b oOb)(ne_b5_b6a:b5≠b6a)(ne_b6a_b5:b6a≠b5)(n_b5:n0≤b5)(n_b6a:n0≤b6a) :
    own_Met l mn9 prog_28_method_10_code 7 none ws (oRm 2 1 3 28) #[vI 4,vI 3,vI 4,vR b4,vI 3,vR b5] Z h0 (Q6a88 Z b5 b6a k4 k6b b6c b6d h0 n0):=by
  refine own_met (own:=oLy) rfl (plainFor_of_name pn_0) ?_
  intro p e s m below meth c s₁ hx hby hml hZ hown hnm X0 e0 Br Bs
  have N0:=Fr.nil n0
  have tt:=own_tt hx hby own_ok6
  refine oV 0 #[oI 4,oI 3,oI 4,oR b4,oI 3,oR b5,oU] [] ?_
  refine oG X0 tt 5 9 #[oI 4,oI 3,oI 4,oR b4,oI 3,oR b5,oU] [vR b4,vR b5] rfl ?_
  obtain ⟨T7,h7,X7,e7,E7,A7,EA7,st7⟩:=cloneH X0 hx hZ hown (ow38 hw) (ow39 hw) (ow43 hw) (ow41 hw) (ow42 hw) (ow44 hw) e0 (hs:=[]) PV13 PE14 (g:=(mkF m 9 #[oI 4,oI 3,oI 4,oR b4,oI 3,oR b5,oU] [vR b4,vR b5])) rfl hml.symm rfl (hb hby d6_9) (by decide) (W:=1) (cap:=3) (oZ rfl) (by decide) (by decide) (by decide) (by decide)
  obtain ⟨b7,g_b7⟩:∃ z,z = h0.size:=⟨_,rfl⟩
  have sg_b7:h0.size≤b7:=Nat.le_of_eq g_b7.symm
  rw [← g_b7] at A7 EA7 st7
  have n_b7:=oT Z0 sg_b7
  have sz_b7:=oT (Keep.refl h0 [b6a,b5]).1 sg_b7
  have K7:Keep h0 h7 [b6a,b5]:=(Keep.refl h0 [b6a,b5]).ext E7
  have V_b7:Arv Z h7 b7 k4 .int 3 [vI 0,vI 2,vI 3] (vI 0):=A7
  refine oJ 12 #[oI 4,oI 3,oI 4,oR b4,oI 3,oR b5,oU] [vR b7,vR b5] st7 ?_
  obtain ⟨T8,X8,e8,st8⟩:=castY X7 hx hZ hown (ow45 hw) e7 (Ins.self EA7) (g:=(mkF m 12 #[oI 4,oI 3,oI 4,oR b4,oI 3,oR b5,oU] [vR b7,vR b5])) rfl rfl (hb hby d6_12)
  refine oJ 15 #[oI 4,oI 3,oI 4,oR b4,oI 3,oR b5,oU] [vR b7,vR b5] st8 ?_
  refine own_cI X8 hx hZ hown e8 (ow47 hw) (ow48 hw) (mvT hZ (ow49 hw)) (ow50 hw) (ow51 hw) (ow52 hw) (ow53 hw) (ow54 hw) (ow13 hw) (ow55 hw) (PE9.ext E7) (y:=mn8) (z:=mn7) (argsL:=[vR b7]) (rest:=[]) (W:=0) hml.symm (hb hby d6_15) (lenOf pd13 rfl) rfl (by decide) (rm7a46 l Z a0 hw [] b5 b7 b6a k6b b6c b6d h7 n0 (oT Z0 E7.1) (PE9.ext E7) (PF10.ext E7) (PF11.ext E7) (PF12.ext E7) (PV15.ext E7) EA7 ov_b6a ne_b5_b6a ne_b6a_b5 n_b5 n_b6a) fun _ T16 _ X16 hQ16=>?_
  obtain ⟨rfl,N16q,K16,g16_0,g16_1,g16_2,g16_3⟩:=hQ16
  have N16:=Fr.app N0 N16q
  have eK16:T16.heap = T16.heap:=rfl
  have KK16:Keep h0 T16.heap [b6a,b5]:=Keep.trans K7 K16 (allS oI1 (allS oI0 all0))
  obtain ⟨_,X16,N16⟩:=own_hide X16 N16
  refine oV 20 #[oI 4,oI 3,oI 4,oR b4,oI 3,oR b5,oU] [vI 1] ?_
  refine oG X16 tt 2 66 #[oI 4,oI 3,oI 4,oR b4,oI 3,oR b5,oU] [] rfl ?_
  refine own_ret X16 (v:=none) (fun _=>rfl) Bs (fun fs hr=>X16.returnOut hx Br (hb hby d6_66) hr) ?_ (by decide) (by decide)
  unfold Q6a88
  have G17:=(V_b7.keep K16 (ninS (oM PE9.lt sz_b7) (ninS (oM PV15.lt sz_b7) nin0)))
  rw [eK16]
  exact ⟨b7,rfl,N16,KK16,n_b7,sz_b7,g16_3,g16_0,g16_1,g16_2,G17,(EA7.keep K16)⟩
def Q6a87 (Z:State)(b3 b4 b5a:Addr)(k3 k5b:ClassId)(b5c b5d:Addr)(h0:Heap)(n0:Nat)(v:Option Value)(h:Heap)(L:List Loc):Prop:=∃ (b6a:Addr),v = none∧Fr n0 L∧Keep h0 h [b3,b4,b5a]∧n0≤b6a∧h0.size≤b6a∧Arv Z h b3 k3 .int 3 [vI 0,vI 2,vI 3] (vI 0)∧oF0 Z h b4 (vI 3)∧oF1 Z h b4 (vR b5a)∧oF2 Z h b4 (vI 3)∧Arv Z h b5a k5b (.object oOb) 10 [vR b5c,vR b5d,vR b6a,.null,.null,.null,.null,.null,.null,.null] .null∧Arv Z h b6a k3 .int 3 [vI 0,vI 2,vI 3] (vI 0)∧Exa Z h b6a "[I"
set_option maxRecDepth 65536 in
set_option maxHeartbeats 40000000 in
theorem rm6a87 (l:Launch)(Z:State)(a0:Array Value)(hw:HW a0 Z)(ws:List Jvm.Cond)(b6 b7 b8a:Addr)(k6 k8b:ClassId)(b8c b8d:Addr)(h0:Heap)(n0:Nat)(Z0:n0≤h0.size)(PE9:Exa Z h0 b7 "java/util/ArrayList")(PF10:oF0 Z h0 b7 (vI 2))(PF11:oF1 Z h0 b7 (vR b8a))(PF12:oF2 Z h0 b7 (vI 2))(PV13:Arv Z h0 b6 k6 .int 3 [vI 0,vI 2,vI 3] (vI 0))(PE14:Exa Z h0 b6 "[I")(PV15:Arv Z h0 b8a k8b (.object oOb) 10 [vR b8c,vR b8d,.null,.null,.null,.null,.null,.null,.null,.null] .null)(ov_b8a:Ovr Z k8b oOb)(ne_b7_b8a:b7≠b8a)(ne_b8a_b7:b8a≠b7)(ne_b7_b6:b7≠b6)(ne_b8a_b6:b8a≠b6)(ne_b6_b7:b6≠b7)(ne_b6_b8a:b6≠b8a)(n_b6:n0≤b6)(n_b7:n0≤b7)(n_b8a:n0≤b8a) :
    own_Met l mn9 prog_28_method_10_code 7 none ws (oRm 3 1 3 46) #[vI 4,vI 3,vI 3,vR b6,vI 2,vR b7] Z h0 (Q6a87 Z b6 b7 b8a k6 k8b b8c b8d h0 n0):=by
  refine own_met (own:=oLy) rfl (plainFor_of_name pn_0) ?_
  intro p e s m below meth c s₁ hx hby hml hZ hown hnm X0 e0 Br Bs
  have N0:=Fr.nil n0
  have tt:=own_tt hx hby own_ok6
  refine oV 0 #[oI 4,oI 3,oI 3,oR b6,oI 2,oR b7,oU] [] ?_
  refine oG X0 tt 15 43 #[oI 4,oI 3,oI 3,oR b6,oI 2,oR b7,oI 3] [vI 3,vI 2,vR b6] rfl ?_
  obtain ⟨T16,h16,X16,e16,W16,V16,st16⟩:=own_stI X0 hx hZ e0 PV13 (j:=(2:Int32)) ⟨by decide,by decide⟩ 2 rfl (Nat.le_of_ble_eq_true rfl) (g:=(mkF m 43 #[oI 4,oI 3,oI 3,oR b6,oI 2,oR b7,oI 3] [vI 3,vI 2,vR b6])) rfl rfl (hb hby d6_43)
  have K16:Keep h0 h16 [b6,b7,b8a]:=(Keep.refl h0 [b6,b7,b8a]).wr W16 oI0
  have V16s:Arv Z h16 b6 k6 .int 3 [vI 0,vI 2,vI 3] (vI 0):=V16
  have N16:=Fr.snoc X16 N0 n_b6
  refine oH st16 X16 tt 10 57 #[oI 4,oI 3,oI 3,oR b6,oI 2,oR b7,oI 3] [vR b7,vI 3,vR b6,vI 4,vI 3,vI 4] rfl ?_
  refine own_cS X16 hx hZ hown e16 (ow35 hw) (ow36 hw) (ow3 hw) (ow37 hw) (y:=mn9) (argsL:=[vI 4,vI 3,vI 4,vR b6,vI 3,vR b7]) (rest:=[]) (W:=0) hml.symm (hb hby d6_57) (lenOf pd9 rfl) rfl (by decide) (rm6a88 l Z a0 hw [] b6 b7 b8a k6 k8b b8c b8d h16 n0 (oT Z0 (Keep.of_wr W16).1) (PE9.wr W16) (PF10.other W16 (Or.inl ne_b7_b6)) (PF11.other W16 (Or.inl ne_b7_b6)) (PF12.other W16 (Or.inl ne_b7_b6)) V16s (PE14.wr W16) (PV15.other W16 ne_b8a_b6) ov_b8a ne_b7_b8a ne_b8a_b7 n_b7 n_b8a) fun _ T17 _ X17 hQ17=>?_
  obtain ⟨b17a,rfl,N17q,K17,n_b17a,sg_b17a,g17_0,g17_1,g17_2,g17_3,g17_4,g17_5⟩:=hQ17
  have N17:=Fr.app N16 N17q
  have sz_b17a:=oT K16.1 sg_b17a
  have eK17:T17.heap = T17.heap:=rfl
  have KK17:Keep h0 T17.heap [b6,b7,b8a]:=Keep.trans K16 K17 (allS oI2 (allS oI1 all0))
  obtain ⟨_,X17,N17⟩:=own_hide X17 N17
  refine oV 60 #[oI 4,oI 3,oI 3,oR b6,oI 2,oR b7,oI 3] [] ?_
  refine oG X17 tt 9 66 #[oI 4,oI 3,oI 3,oR b6,oI 2,oR b7,oI 4] [] rfl ?_
  refine own_ret X17 (v:=none) (fun _=>rfl) Bs (fun fs hr=>X17.returnOut hx Br (hb hby d6_66) hr) ?_ (by decide) (by decide)
  unfold Q6a87
  have G18:=(V16s.keep K17 (ninS ne_b6_b8a (ninS ne_b6_b7 nin0)))
  rw [eK17]
  exact ⟨b17a,rfl,N17,KK17,n_b17a,sz_b17a,G18,g17_1,g17_2,g17_3,g17_0,g17_4,g17_5⟩
def Q6a83 (Z:State)(b3 b4:Addr)(k3:ClassId)(h0:Heap)(n0:Nat)(v:Option Value)(h:Heap)(L:List Loc):Prop:=∃ (b5a:Addr)(k5b:ClassId)(b5c b5d b6a:Addr),v = none∧Fr n0 L∧Keep h0 h [b3,b4]∧n0≤b5a∧h0.size≤b5a∧n0≤b5c∧h0.size≤b5c∧n0≤b5d∧h0.size≤b5d∧n0≤b6a∧h0.size≤b6a∧b5c≠b5a∧b5d≠b5a∧b5d≠b5c∧b6a≠b5a∧b6a≠b5c∧b6a≠b5d∧Arv Z h b3 k3 .int 3 [vI 0,vI 2,vI 3] (vI 0)∧oF0 Z h b4 (vI 3)∧oF1 Z h b4 (vR b5a)∧oF2 Z h b4 (vI 3)∧Arv Z h b5a k5b (.object oOb) 10 [vR b5c,vR b5d,vR b6a,.null,.null,.null,.null,.null,.null,.null] .null∧Ovr Z k5b oOb∧Arv Z h b5c k3 .int 3 [vI 0,vI 1,vI 2] (vI 0)∧Exa Z h b5c "[I"∧Arv Z h b5d k3 .int 3 [vI 0,vI 1,vI 3] (vI 0)∧Exa Z h b5d "[I"∧Arv Z h b6a k3 .int 3 [vI 0,vI 2,vI 3] (vI 0)∧Exa Z h b6a "[I"
set_option maxRecDepth 65536 in
set_option maxHeartbeats 40000000 in
theorem rm6a83 (l:Launch)(Z:State)(a0:Array Value)(hw:HW a0 Z)(ws:List Jvm.Cond)(b15 b16 wd:Addr)(kd k15:ClassId)(h0:Heap)(n0:Nat)(Z0:n0≤h0.size)(PS0:Sta Z h0 "java/util/ArrayList" "DEFAULTCAPACITY_EMPTY_ELEMENTDATA" "[Ljava/lang/Object;" (vR wd))(PV1:Arv Z h0 wd kd (.object oOb) 0 [] .null)(PE9:Exa Z h0 b16 "java/util/ArrayList")(PF10:oF0 Z h0 b16 (vI 0))(PF11:oF1 Z h0 b16 (vR wd))(PF12:oF2 Z h0 b16 (vI 0))(PV13:Arv Z h0 b15 k15 .int 3 [vI 0,vI 0,vI 0] (vI 0))(PE14:Exa Z h0 b15 "[I")(ne_wd_b16:wd≠b16)(ne_wd_b15:wd≠b15)(ne_b16_b15:b16≠b15)(ne_b15_b16:b15≠b16)(n_b15:n0≤b15)(n_b16:n0≤b16) :
    own_Met l mn9 prog_28_method_10_code 7 none ws (oRm 7 4 19 105) #[vI 4,vI 3,vI 1,vR b15,vI 1,vR b16] Z h0 (Q6a83 Z b15 b16 k15 h0 n0):=by
  refine own_met (own:=oLy) rfl (plainFor_of_name pn_0) ?_
  intro p e s m below meth c s₁ hx hby hml hZ hown hnm X0 e0 Br Bs
  have N0:=Fr.nil n0
  have tt:=own_tt hx hby own_ok6
  refine oV 0 #[oI 4,oI 3,oI 1,oR b15,oI 1,oR b16,oU] [] ?_
  refine oG X0 tt 15 43 #[oI 4,oI 3,oI 1,oR b15,oI 1,oR b16,oI 1] [vI 1,vI 1,vR b15] rfl ?_
  obtain ⟨T17,h17,X17,e17,W17,V17,st17⟩:=own_stI X0 hx hZ e0 PV13 (j:=(1:Int32)) ⟨by decide,by decide⟩ 1 rfl (Nat.le_of_ble_eq_true rfl) (g:=(mkF m 43 #[oI 4,oI 3,oI 1,oR b15,oI 1,oR b16,oI 1] [vI 1,vI 1,vR b15])) rfl rfl (hb hby d6_43)
  have K17:Keep h0 h17 [b15,b16]:=(Keep.refl h0 [b15,b16]).wr W17 oI0
  have V17s:Arv Z h17 b15 k15 .int 3 [vI 0,vI 1,vI 0] (vI 0):=V17
  have N17:=Fr.snoc X17 N0 n_b15
  refine oH st17 X17 tt 10 57 #[oI 4,oI 3,oI 1,oR b15,oI 1,oR b16,oI 1] [vR b16,vI 2,vR b15,vI 2,vI 3,vI 4] rfl ?_
  refine own_cS X17 hx hZ hown e17 (ow35 hw) (ow36 hw) (ow3 hw) (ow37 hw) (y:=mn9) (argsL:=[vI 4,vI 3,vI 2,vR b15,vI 2,vR b16]) (rest:=[]) (W:=0) hml.symm (hb hby d6_57) (lenOf pd9 rfl) rfl (by decide) (rm6a84 l Z a0 hw [] b15 b16 wd kd k15 h17 n0 (oT Z0 (Keep.of_wr W17).1) (PS0.wr W17) (PV1.other W17 ne_wd_b15) (PE9.wr W17) (PF10.other W17 (Or.inl ne_b16_b15)) (PF11.other W17 (Or.inl ne_b16_b15)) (PF12.other W17 (Or.inl ne_b16_b15)) V17s (PE14.wr W17) ne_wd_b16 ne_wd_b15 ne_b16_b15 ne_b15_b16 n_b15 n_b16) fun _ T18 _ X18 hQ18=>?_
  obtain ⟨b18a,k18b,b18c,b18d,rfl,N18q,K18,n_b18a,sg_b18a,n_b18c,sg_b18c,n_b18d,sg_b18d,ne18_0,ne18_1,ne18_2,g18_0,g18_1,g18_2,g18_3,g18_4,g18_5,g18_6,g18_7,g18_8,g18_9⟩:=hQ18
  have N18:=Fr.app N17 N18q
  have sz_b18a:=oT K17.1 sg_b18a
  have sz_b18c:=oT K17.1 sg_b18c
  have sz_b18d:=oT K17.1 sg_b18d
  have eK18:T18.heap = T18.heap:=rfl
  have KK18:Keep h0 T18.heap [b15,b16]:=Keep.trans K17 K18 (allS oI0 (allS oI1 all0))
  obtain ⟨_,X18,N18⟩:=own_hide X18 N18
  refine oV 60 #[oI 4,oI 3,oI 1,oR b15,oI 1,oR b16,oI 1] [] ?_
  refine oG X18 tt 12 43 #[oI 4,oI 3,oI 1,oR b15,oI 1,oR b16,oI 2] [vI 2,vI 1,vR b15] rfl ?_
  obtain ⟨T19,h19,X19,e19,W19,V19,st19⟩:=own_stI X18 hx hZ eK18 g18_0 (j:=(1:Int32)) ⟨by decide,by decide⟩ 1 rfl (Nat.le_of_ble_eq_true rfl) (g:=(mkF m 43 #[oI 4,oI 3,oI 1,oR b15,oI 1,oR b16,oI 2] [vI 2,vI 1,vR b15])) rfl rfl (hb hby d6_43)
  have K19:Keep h0 h19 [b15,b16]:=KK18.wr W19 oI0
  have V19s:Arv Z h19 b15 k15 .int 3 [vI 0,vI 2,vI 3] (vI 0):=V19
  have N19:=Fr.snoc X19 N18 n_b15
  refine oH st19 X19 tt 10 57 #[oI 4,oI 3,oI 1,oR b15,oI 1,oR b16,oI 2] [vR b16,vI 2,vR b15,vI 3,vI 3,vI 4] rfl ?_
  refine own_cS X19 hx hZ hown e19 (ow35 hw) (ow36 hw) (ow3 hw) (ow37 hw) (y:=mn9) (argsL:=[vI 4,vI 3,vI 3,vR b15,vI 2,vR b16]) (rest:=[]) (W:=0) hml.symm (hb hby d6_57) (lenOf pd9 rfl) rfl (by decide) (rm6a87 l Z a0 hw [] b15 b16 b18a k15 k18b b18c b18d h19 n0 (oT (oT (oT Z0 (Keep.of_wr W17).1) K18.1) (Keep.of_wr W19).1) (((PE9.wr W17).keep K18).wr W19) (g18_1.other W19 (Or.inl ne_b16_b15)) (g18_2.other W19 (Or.inl ne_b16_b15)) (g18_3.other W19 (Or.inl ne_b16_b15)) V19s (((PE14.wr W17).keep K18).wr W19) (g18_4.other W19 (oM PV13.lt sz_b18a)) g18_5 (oL PE9.lt sz_b18a) (oM PE9.lt sz_b18a) ne_b16_b15 (oM PV13.lt sz_b18a) ne_b15_b16 (oL PV13.lt sz_b18a) n_b15 n_b16 n_b18a) fun _ T20 _ X20 hQ20=>?_
  obtain ⟨b20a,rfl,N20q,K20,n_b20a,sg_b20a,g20_0,g20_1,g20_2,g20_3,g20_4,g20_5,g20_6⟩:=hQ20
  have N20:=Fr.app N19 N20q
  have sz_b20a:=oT K19.1 sg_b20a
  have u21:=(oW g18_4.lt (Keep.of_wr W19).1)
  have u22:=(oW g18_6.lt (Keep.of_wr W19).1)
  have u23:=(oW g18_8.lt (Keep.of_wr W19).1)
  have m24:h17.size≤h19.size:=(oT (oT (Nat.le_refl _) K18.1) (Keep.of_wr W19).1)
  have eK20:T20.heap = T20.heap:=rfl
  have KK20:Keep h0 T20.heap [b15,b16]:=Keep.trans K19 K20 (allS oI0 (allS oI1 (allS (Or.inr sz_b18a) all0)))
  obtain ⟨_,X20,N20⟩:=own_hide X20 N20
  refine oV 60 #[oI 4,oI 3,oI 1,oR b15,oI 1,oR b16,oI 2] [] ?_
  refine oG X20 tt 9 66 #[oI 4,oI 3,oI 1,oR b15,oI 1,oR b16,oI 3] [] rfl ?_
  refine own_ret X20 (v:=none) (fun _=>rfl) Bs (fun fs hr=>X20.returnOut hx Br (hb hby d6_66) hr) ?_ (by decide) (by decide)
  unfold Q6a83
  have G25:=((g18_6.other W19 (oM PV13.lt sz_b18c)).keep K20 (ninS (oM PV13.lt sz_b18c) (ninS (oM PE9.lt sz_b18c) (ninS ne18_0 nin0))))
  have G26:=((g18_8.other W19 (oM PV13.lt sz_b18d)).keep K20 (ninS (oM PV13.lt sz_b18d) (ninS (oM PE9.lt sz_b18d) (ninS ne18_1 nin0))))
  rw [eK20]
  exact ⟨b18a,k18b,b18c,b18d,b20a,rfl,N20,KK20,n_b18a,sz_b18a,n_b18c,sz_b18c,n_b18d,sz_b18d,n_b20a,sz_b20a,ne18_0,ne18_1,ne18_2,(oM u21 sg_b20a),(oM u22 sg_b20a),(oM u23 sg_b20a),g20_0,g20_1,g20_2,g20_3,g20_4,g18_5,G25,((g18_7.wr W19).keep K20),G26,((g18_9.wr W19).keep K20),g20_5,g20_6⟩
def Q8a93 (Z:State)(b3 b4 b5a:Addr)(k5b:ClassId)(b5c b5d b5e:Addr)(h0:Heap)(n0:Nat)(v:Option Value)(h:Heap)(L:List Loc):Prop:=v = none∧Fr n0 L∧Keep h0 h [b5a,b3]∧Arv Z h b5a k5b (.object oOb) 10 [vR b5c,vR b5d,vR b5e,vR b4,.null,.null,.null,.null,.null,.null] .null∧oF0 Z h b3 (vI 4)∧oF1 Z h b3 (vR b5a)∧oF2 Z h b3 (vI 4)
set_option maxRecDepth 65536 in
set_option maxHeartbeats 40000000 in
theorem rm8a93 (l:Launch)(Z:State)(a0:Array Value)(hw:HW a0 Z)(ws:List Jvm.Cond)(b3 b4 b5a:Addr)(k5b:ClassId)(b5c b5d b5e:Addr)(h0:Heap)(n0:Nat)(Z0:n0≤h0.size)(PE9:Exa Z h0 b3 "java/util/ArrayList")(PF10:oF0 Z h0 b3 (vI 4))(PF11:oF1 Z h0 b3 (vR b5a))(PF12:oF2 Z h0 b3 (vI 3))(PV15:Arv Z h0 b5a k5b (.object oOb) 10 [vR b5c,vR b5d,vR b5e,.null,.null,.null,.null,.null,.null,.null] .null)(PE23:Exa Z h0 b4 "[I")(ov_b5a:Ovr Z k5b oOb)(ne_b3_b5a:b3≠b5a)(ne_b5a_b3:b5a≠b3)(n_b3:n0≤b3)(n_b5a:n0≤b5a) :
    own_Met l mn6 jdk_38_method_24_code 4 none ws (oRm 0 0 0 0) #[vR b3,vR b4,vR b5a,vI 3] Z h0 (Q8a93 Z b3 b4 b5a k5b b5c b5d b5e h0 n0):=by
  refine own_met (own:="java/util/ArrayList") rfl (plainFor_of_name pn_6) ?_
  intro p e s m below meth c s₁ hx hby hml hZ hown hnm X0 e0 Br Bs
  have N0:=Fr.nil n0
  have tt:=own_tt hx hby own_ok8
  refine oV 0 #[oR b3,oR b4,oR b5a,oI 3] [] ?_
  refine oX2 a0 [b3,b5a,b5c,b5d,b5e,b4] [0,k5b,0,0,0,0] [] [] [] [1] 6 [oR 0,oR 5,oR 1,oI 3] [] [(1,(.object oOb),10,[vR 2,vR 3,vR 4,.null,.null,.null,.null,.null,.null,.null])] 14 [oR 0,oR 5,oR 1,oI 3] [vR 5,vI 3,vR 1] [] tt hZ hown X0 N0 e0 trivial trivial trivial (oA PV15 trivial) (Or.inl rfl) trivial rfl rfl (by decide +kernel) 7 (by decide +kernel) fun T6 h6 _ X6 N6 e6 K6 q6 M6=>?_
  have e6:=e6.trans (q6 rfl)
  refine oV 14 #[oR b3,oR b4,oR b5a,oI 3] [vR b4,vI 3,vR b5a] ?_
  obtain ⟨T7,h7,X7,e7,W7,V7,st7⟩:=own_stR X6 hx hZ e6 PV15 (j:=(3:Int32)) ⟨by decide,by decide⟩ rfl rfl (fun cl Ar q=>Sto.ofV Ar q ov_b5a (Ins.of_exa PE23 (ow81 hw))) 3 rfl (Nat.le_of_ble_eq_true rfl) (g:=(mkF m 14 #[oR b3,oR b4,oR b5a,oI 3] [vR b4,vI 3,vR b5a])) rfl rfl (hb hby d8_14)
  have K7:Keep h0 h7 [b5a,b3]:=(Keep.refl h0 [b5a,b3]).wr W7 oI0
  have V7s:Arv Z h7 b5a k5b (.object oOb) 10 [vR b5c,vR b5d,vR b5e,vR b4,.null,.null,.null,.null,.null,.null] .null:=V7
  have N7:=Fr.snoc X7 N6 n_b5a
  refine oH st7 X7 tt 4 19 #[oR b3,oR b4,oR b5a,oI 3] [vI 4,vR b3] rfl ?_
  obtain ⟨T8,h8,X8,e8,W8,st8⟩:=putF X7 hx hZ hown (host:="") (Or.inl (ow58 hw)) Via.refl e7 (PF12.other W7 (Or.inl ne_b3_b5a)) (PE9.wr W7) (Or.inl (ow59 hw)) (ow12 hw) (ty:=.int) (by decide) rfl rfl (g:=(mkF m 19 #[oR b3,oR b4,oR b5a,oI 3] [vI 4,vR b3])) rfl rfl (hb hby d8_19)
  have Fw8:=Fld.same W8 (PF12.other W7 (Or.inl ne_b3_b5a))
  have K8:Keep h0 h8 [b5a,b3]:=K7.wr W8 oI1
  have N8:=Fr.snoc X8 N7 n_b3
  refine oJ 22 #[oR b3,oR b4,oR b5a,oI 3] [] st8 ?_
  refine own_ret X8 (v:=none) (fun _=>rfl) Bs (fun fs hr=>X8.returnOut hx Br (hb hby d8_22) hr) ?_ (by decide) (by decide)
  unfold Q8a93
  have G13:=((PF10.other W7 (Or.inl ne_b3_b5a)).other W8 (Or.inr (sn_31_59 hw)))
  have G14:=((PF11.other W7 (Or.inl ne_b3_b5a)).other W8 (Or.inr (sn_34_59 hw)))
  rw [e8]
  exact ⟨rfl,N8,K8,(V7s.other W8 ne_b5a_b3),G13,G14,Fw8⟩
def Q7a92 (Z:State)(b3 b4 b5a:Addr)(k5b:ClassId)(b5c b5d b5e:Addr)(h0:Heap)(n0:Nat)(v:Option Value)(h:Heap)(L:List Loc):Prop:=v = some (vI 1)∧Fr n0 L∧Keep h0 h [b3,b5a]∧oF0 Z h b3 (vI 4)∧oF1 Z h b3 (vR b5a)∧oF2 Z h b3 (vI 4)∧Arv Z h b5a k5b (.object oOb) 10 [vR b5c,vR b5d,vR b5e,vR b4,.null,.null,.null,.null,.null,.null] .null
set_option maxRecDepth 65536 in
set_option maxHeartbeats 40000000 in
theorem rm7a92 (l:Launch)(Z:State)(a0:Array Value)(hw:HW a0 Z)(ws:List Jvm.Cond)(b4 b5 b6a:Addr)(k6b:ClassId)(b6c b6d b6e:Addr)(h0:Heap)(n0:Nat)(Z0:n0≤h0.size)(PE9:Exa Z h0 b4 "java/util/ArrayList")(PF10:oF0 Z h0 b4 (vI 3))(PF11:oF1 Z h0 b4 (vR b6a))(PF12:oF2 Z h0 b4 (vI 3))(PV15:Arv Z h0 b6a k6b (.object oOb) 10 [vR b6c,vR b6d,vR b6e,.null,.null,.null,.null,.null,.null,.null] .null)(PE23:Exa Z h0 b5 "[I")(ov_b6a:Ovr Z k6b oOb)(ne_b4_b6a:b4≠b6a)(ne_b6a_b4:b6a≠b4)(n_b4:n0≤b4)(n_b6a:n0≤b6a) :
    own_Met l mn7 jdk_38_method_25_code 2 (some .boolean) ws (oRm 1 0 0 15) #[vR b4,vR b5] Z h0 (Q7a92 Z b4 b5 b6a k6b b6c b6d b6e h0 n0):=by
  refine own_met (own:="java/util/ArrayList") rfl (plainFor_of_name pn_6) ?_
  intro p e s m below meth c s₁ hx hby hml hZ hown hnm X0 e0 Br Bs
  have N0:=Fr.nil n0
  have tt:=own_tt hx hby own_ok7
  refine oV 0 #[oR b4,oR b5] [] ?_
  refine oG X0 tt 2 2 #[oR b4,oR b5] [vR b4,vR b4] rfl ?_
  obtain ⟨T7,X7,e7,st7⟩:=getF X0 hx hZ hown (host:="") (Or.inl (ow56 hw)) (Via.of (ow57 hw)) e0 PF10 (g:=(mkF m 2 #[oR b4,oR b5] [vR b4,vR b4])) rfl rfl (hb hby d7_2)
  refine oH st7 X7 tt 2 7 #[oR b4,oR b5] [vI 4,vR b4] rfl ?_
  obtain ⟨T8,h8,X8,e8,W8,st8⟩:=putF X7 hx hZ hown (host:="") (Or.inl (ow56 hw)) (Via.of (ow57 hw)) e7 PF10 PE9 (Or.inl (ow31 hw)) (ow12 hw) (ty:=.int) (by decide) rfl rfl (g:=(mkF m 7 #[oR b4,oR b5] [vI 4,vR b4])) rfl rfl (hb hby d7_7)
  have Fw8:=Fld.same W8 PF10
  have K8:Keep h0 h8 [b4,b6a]:=(Keep.refl h0 [b4,b6a]).wr W8 oI0
  have N8:=Fr.snoc X8 N0 n_b4
  refine oJ 10 #[oR b4,oR b5] [] st8 ?_
  refine oX2 a0 [b4,b6a,b5] [0,0,0] [fE7_9 0 (vR 1),fE7_48 0 (vI 3)] [] [] [] 3 [oR 0,oR 2] [] [] 20 [oR 0,oR 2] [vI 3,vR 1,vR 2,vR 0] [] tt hZ hown X8 N8 e8 (oA (ow33 hw) (oA (ow58 hw) trivial)) trivial (oA (PF11.other W8 (Or.inr (sn_34_31 hw))) (oA (PF12.other W8 (Or.inr (sn_59_31 hw))) trivial)) trivial (Or.inl rfl) trivial rfl rfl (by decide +kernel) 6 (by decide +kernel) fun T13 h13 _ X13 N13 e13 K13 q13 M13=>?_
  have e13:=e13.trans (q13 rfl)
  refine oV 20 #[oR b4,oR b5] [vI 3,vR b6a,vR b5,vR b4] ?_
  refine own_cP X13 hx hZ hown e13 (ow60 hw) (ow61 hw) (mvT hZ (ow63 hw)) (ow62 hw) (ow13 hw) (ow64 hw) (PE9.wr W8) (y:=mn6) (argsL:=[vR b5,vR b6a,vI 3]) (rest:=[]) (W:=0) hml.symm (hb hby d7_20) (lenOf pd14 rfl) rfl (by decide) (rm8a93 l Z a0 hw [] b4 b5 b6a k6b b6c b6d b6e h8 n0 (oT Z0 (Keep.of_wr W8).1) (PE9.wr W8) Fw8 (PF11.other W8 (Or.inr (sn_34_31 hw))) (PF12.other W8 (Or.inr (sn_59_31 hw))) (PV15.other W8 ne_b6a_b4) (PE23.wr W8) ov_b6a ne_b4_b6a ne_b6a_b4 n_b4 n_b6a) fun _ T14 _ X14 hQ14=>?_
  obtain ⟨rfl,N14q,K14,g14_0,g14_1,g14_2,g14_3⟩:=hQ14
  have N14:=Fr.app N13 N14q
  have eK14:T14.heap = T14.heap:=rfl
  have KK14:Keep h0 T14.heap [b4,b6a]:=Keep.trans K8 K14 (allS oI1 (allS oI0 all0))
  obtain ⟨_,X14,N14⟩:=own_hide X14 N14
  refine oV 23 #[oR b4,oR b5] [] ?_
  refine oG X14 tt 1 24 #[oR b4,oR b5] [vI 1] rfl ?_
  refine own_ret X14 (v:=some (vI 1)) (oN Br) Bs (fun fs hr=>retN X14 hx (t:=.boolean) Br (by simp) (hb hby d7_24) hr) ?_ (by decide) (by decide)
  unfold Q7a92
  rw [eK14]
  exact ⟨rfl,N14,KK14,g14_1,g14_2,g14_3,g14_0⟩
def Q6a91 (Z:State)(b3 b4a:Addr)(k5 k4b:ClassId)(b4c b4d b4e:Addr)(h0:Heap)(n0:Nat)(v:Option Value)(h:Heap)(L:List Loc):Prop:=∃ (b6:Addr),v = none∧Fr n0 L∧Keep h0 h [b4a,b3]∧n0≤b6∧h0.size≤b6∧Arv Z h b4a k4b (.object oOb) 10 [vR b4c,vR b4d,vR b4e,vR b6,.null,.null,.null,.null,.null,.null] .null∧oF0 Z h b3 (vI 4)∧oF1 Z h b3 (vR b4a)∧oF2 Z h b3 (vI 4)∧Arv Z h b6 k5 .int 3 [vI 1,vI 2,vI 3] (vI 0)∧Exa Z h b6 "[I"
set_option maxRecDepth 65536 in
set_option maxHeartbeats 40000000 in
theorem rm6a91 (l:Launch)(Z:State)(a0:Array Value)(hw:HW a0 Z)(ws:List Jvm.Cond)(b4 b5 b6a:Addr)(k4 k6b:ClassId)(b6c b6d b6e:Addr)(h0:Heap)(n0:Nat)(Z0:n0≤h0.size)(PE9:Exa Z h0 b5 "java/util/ArrayList")(PF10:oF0 Z h0 b5 (vI 3))(PF11:oF1 Z h0 b5 (vR b6a))(PF12:oF2 Z h0 b5 (vI 3))(PV13:Arv Z h0 b4 k4 .int 3 [vI 1,vI 2,vI 3] (vI 0))(PE14:Exa Z h0 b4 "[I")(PV15:Arv Z h0 b6a k6b (.object oOb) 10 [vR b6c,vR b6d,vR b6e,.null,.null,.null,.null,.null,.null,.null] .null)(ov_b6a:Ovr Z k6b oOb)(ne_b5_b6a:b5≠b6a)(ne_b6a_b5:b6a≠b5)(n_b5:n0≤b5)(n_b6a:n0≤b6a) :
    own_Met l mn9 prog_28_method_10_code 7 none ws (oRm 2 1 3 28) #[vI 4,vI 3,vI 4,vR b4,vI 3,vR b5] Z h0 (Q6a91 Z b5 b6a k4 k6b b6c b6d b6e h0 n0):=by
  refine own_met (own:=oLy) rfl (plainFor_of_name pn_0) ?_
  intro p e s m below meth c s₁ hx hby hml hZ hown hnm X0 e0 Br Bs
  have N0:=Fr.nil n0
  have tt:=own_tt hx hby own_ok6
  refine oV 0 #[oI 4,oI 3,oI 4,oR b4,oI 3,oR b5,oU] [] ?_
  refine oG X0 tt 5 9 #[oI 4,oI 3,oI 4,oR b4,oI 3,oR b5,oU] [vR b4,vR b5] rfl ?_
  obtain ⟨T7,h7,X7,e7,E7,A7,EA7,st7⟩:=cloneH X0 hx hZ hown (ow38 hw) (ow39 hw) (ow43 hw) (ow41 hw) (ow42 hw) (ow44 hw) e0 (hs:=[]) PV13 PE14 (g:=(mkF m 9 #[oI 4,oI 3,oI 4,oR b4,oI 3,oR b5,oU] [vR b4,vR b5])) rfl hml.symm rfl (hb hby d6_9) (by decide) (W:=1) (cap:=3) (oZ rfl) (by decide) (by decide) (by decide) (by decide)
  obtain ⟨b7,g_b7⟩:∃ z,z = h0.size:=⟨_,rfl⟩
  have sg_b7:h0.size≤b7:=Nat.le_of_eq g_b7.symm
  rw [← g_b7] at A7 EA7 st7
  have n_b7:=oT Z0 sg_b7
  have sz_b7:=oT (Keep.refl h0 [b6a,b5]).1 sg_b7
  have K7:Keep h0 h7 [b6a,b5]:=(Keep.refl h0 [b6a,b5]).ext E7
  have V_b7:Arv Z h7 b7 k4 .int 3 [vI 1,vI 2,vI 3] (vI 0):=A7
  refine oJ 12 #[oI 4,oI 3,oI 4,oR b4,oI 3,oR b5,oU] [vR b7,vR b5] st7 ?_
  obtain ⟨T8,X8,e8,st8⟩:=castY X7 hx hZ hown (ow45 hw) e7 (Ins.self EA7) (g:=(mkF m 12 #[oI 4,oI 3,oI 4,oR b4,oI 3,oR b5,oU] [vR b7,vR b5])) rfl rfl (hb hby d6_12)
  refine oJ 15 #[oI 4,oI 3,oI 4,oR b4,oI 3,oR b5,oU] [vR b7,vR b5] st8 ?_
  refine own_cI X8 hx hZ hown e8 (ow47 hw) (ow48 hw) (mvT hZ (ow49 hw)) (ow50 hw) (ow51 hw) (ow52 hw) (ow53 hw) (ow54 hw) (ow13 hw) (ow55 hw) (PE9.ext E7) (y:=mn8) (z:=mn7) (argsL:=[vR b7]) (rest:=[]) (W:=0) hml.symm (hb hby d6_15) (lenOf pd13 rfl) rfl (by decide) (rm7a92 l Z a0 hw [] b5 b7 b6a k6b b6c b6d b6e h7 n0 (oT Z0 E7.1) (PE9.ext E7) (PF10.ext E7) (PF11.ext E7) (PF12.ext E7) (PV15.ext E7) EA7 ov_b6a ne_b5_b6a ne_b6a_b5 n_b5 n_b6a) fun _ T16 _ X16 hQ16=>?_
  obtain ⟨rfl,N16q,K16,g16_0,g16_1,g16_2,g16_3⟩:=hQ16
  have N16:=Fr.app N0 N16q
  have eK16:T16.heap = T16.heap:=rfl
  have KK16:Keep h0 T16.heap [b6a,b5]:=Keep.trans K7 K16 (allS oI1 (allS oI0 all0))
  obtain ⟨_,X16,N16⟩:=own_hide X16 N16
  refine oV 20 #[oI 4,oI 3,oI 4,oR b4,oI 3,oR b5,oU] [vI 1] ?_
  refine oG X16 tt 2 66 #[oI 4,oI 3,oI 4,oR b4,oI 3,oR b5,oU] [] rfl ?_
  refine own_ret X16 (v:=none) (fun _=>rfl) Bs (fun fs hr=>X16.returnOut hx Br (hb hby d6_66) hr) ?_ (by decide) (by decide)
  unfold Q6a91
  have G17:=(V_b7.keep K16 (ninS (oM PE9.lt sz_b7) (ninS (oM PV15.lt sz_b7) nin0)))
  rw [eK16]
  exact ⟨b7,rfl,N16,KK16,n_b7,sz_b7,g16_3,g16_0,g16_1,g16_2,G17,(EA7.keep K16)⟩
def Q6a90 (Z:State)(b3 b4 b5a:Addr)(k3 k5b:ClassId)(b5c b5d b5e:Addr)(h0:Heap)(n0:Nat)(v:Option Value)(h:Heap)(L:List Loc):Prop:=∃ (b6a:Addr),v = none∧Fr n0 L∧Keep h0 h [b3,b4,b5a]∧n0≤b6a∧h0.size≤b6a∧Arv Z h b3 k3 .int 3 [vI 1,vI 2,vI 3] (vI 0)∧oF0 Z h b4 (vI 4)∧oF1 Z h b4 (vR b5a)∧oF2 Z h b4 (vI 4)∧Arv Z h b5a k5b (.object oOb) 10 [vR b5c,vR b5d,vR b5e,vR b6a,.null,.null,.null,.null,.null,.null] .null∧Arv Z h b6a k3 .int 3 [vI 1,vI 2,vI 3] (vI 0)∧Exa Z h b6a "[I"
set_option maxRecDepth 65536 in
set_option maxHeartbeats 40000000 in
theorem rm6a90 (l:Launch)(Z:State)(a0:Array Value)(hw:HW a0 Z)(ws:List Jvm.Cond)(b6 b7 b8a:Addr)(k6 k8b:ClassId)(b8c b8d b8e:Addr)(h0:Heap)(n0:Nat)(Z0:n0≤h0.size)(PE9:Exa Z h0 b7 "java/util/ArrayList")(PF10:oF0 Z h0 b7 (vI 3))(PF11:oF1 Z h0 b7 (vR b8a))(PF12:oF2 Z h0 b7 (vI 3))(PV13:Arv Z h0 b6 k6 .int 3 [vI 1,vI 2,vI 3] (vI 0))(PE14:Exa Z h0 b6 "[I")(PV15:Arv Z h0 b8a k8b (.object oOb) 10 [vR b8c,vR b8d,vR b8e,.null,.null,.null,.null,.null,.null,.null] .null)(ov_b8a:Ovr Z k8b oOb)(ne_b7_b8a:b7≠b8a)(ne_b8a_b7:b8a≠b7)(ne_b7_b6:b7≠b6)(ne_b8a_b6:b8a≠b6)(ne_b6_b7:b6≠b7)(ne_b6_b8a:b6≠b8a)(n_b6:n0≤b6)(n_b7:n0≤b7)(n_b8a:n0≤b8a) :
    own_Met l mn9 prog_28_method_10_code 7 none ws (oRm 3 1 3 46) #[vI 4,vI 3,vI 3,vR b6,vI 2,vR b7] Z h0 (Q6a90 Z b6 b7 b8a k6 k8b b8c b8d b8e h0 n0):=by
  refine own_met (own:=oLy) rfl (plainFor_of_name pn_0) ?_
  intro p e s m below meth c s₁ hx hby hml hZ hown hnm X0 e0 Br Bs
  have N0:=Fr.nil n0
  have tt:=own_tt hx hby own_ok6
  refine oV 0 #[oI 4,oI 3,oI 3,oR b6,oI 2,oR b7,oU] [] ?_
  refine oG X0 tt 15 43 #[oI 4,oI 3,oI 3,oR b6,oI 2,oR b7,oI 3] [vI 3,vI 2,vR b6] rfl ?_
  obtain ⟨T16,h16,X16,e16,W16,V16,st16⟩:=own_stI X0 hx hZ e0 PV13 (j:=(2:Int32)) ⟨by decide,by decide⟩ 2 rfl (Nat.le_of_ble_eq_true rfl) (g:=(mkF m 43 #[oI 4,oI 3,oI 3,oR b6,oI 2,oR b7,oI 3] [vI 3,vI 2,vR b6])) rfl rfl (hb hby d6_43)
  have K16:Keep h0 h16 [b6,b7,b8a]:=(Keep.refl h0 [b6,b7,b8a]).wr W16 oI0
  have V16s:Arv Z h16 b6 k6 .int 3 [vI 1,vI 2,vI 3] (vI 0):=V16
  have N16:=Fr.snoc X16 N0 n_b6
  refine oH st16 X16 tt 10 57 #[oI 4,oI 3,oI 3,oR b6,oI 2,oR b7,oI 3] [vR b7,vI 3,vR b6,vI 4,vI 3,vI 4] rfl ?_
  refine own_cS X16 hx hZ hown e16 (ow35 hw) (ow36 hw) (ow3 hw) (ow37 hw) (y:=mn9) (argsL:=[vI 4,vI 3,vI 4,vR b6,vI 3,vR b7]) (rest:=[]) (W:=0) hml.symm (hb hby d6_57) (lenOf pd9 rfl) rfl (by decide) (rm6a91 l Z a0 hw [] b6 b7 b8a k6 k8b b8c b8d b8e h16 n0 (oT Z0 (Keep.of_wr W16).1) (PE9.wr W16) (PF10.other W16 (Or.inl ne_b7_b6)) (PF11.other W16 (Or.inl ne_b7_b6)) (PF12.other W16 (Or.inl ne_b7_b6)) V16s (PE14.wr W16) (PV15.other W16 ne_b8a_b6) ov_b8a ne_b7_b8a ne_b8a_b7 n_b7 n_b8a) fun _ T17 _ X17 hQ17=>?_
  obtain ⟨b17a,rfl,N17q,K17,n_b17a,sg_b17a,g17_0,g17_1,g17_2,g17_3,g17_4,g17_5⟩:=hQ17
  have N17:=Fr.app N16 N17q
  have sz_b17a:=oT K16.1 sg_b17a
  have eK17:T17.heap = T17.heap:=rfl
  have KK17:Keep h0 T17.heap [b6,b7,b8a]:=Keep.trans K16 K17 (allS oI2 (allS oI1 all0))
  obtain ⟨_,X17,N17⟩:=own_hide X17 N17
  refine oV 60 #[oI 4,oI 3,oI 3,oR b6,oI 2,oR b7,oI 3] [] ?_
  refine oG X17 tt 9 66 #[oI 4,oI 3,oI 3,oR b6,oI 2,oR b7,oI 4] [] rfl ?_
  refine own_ret X17 (v:=none) (fun _=>rfl) Bs (fun fs hr=>X17.returnOut hx Br (hb hby d6_66) hr) ?_ (by decide) (by decide)
  unfold Q6a90
  have G18:=(V16s.keep K17 (ninS ne_b6_b8a (ninS ne_b6_b7 nin0)))
  rw [eK17]
  exact ⟨b17a,rfl,N17,KK17,n_b17a,sz_b17a,G18,g17_1,g17_2,g17_3,g17_0,g17_4,g17_5⟩
def Q6a89 (Z:State)(b3 b4 b5a:Addr)(k3 k5b:ClassId)(b5c b5d b5e:Addr)(h0:Heap)(n0:Nat)(v:Option Value)(h:Heap)(L:List Loc):Prop:=∃ (b6a:Addr),v = none∧Fr n0 L∧Keep h0 h [b3,b5a,b4]∧n0≤b6a∧h0.size≤b6a∧Arv Z h b3 k3 .int 3 [vI 1,vI 2,vI 3] (vI 0)∧Arv Z h b5a k5b (.object oOb) 10 [vR b5c,vR b5d,vR b5e,vR b6a,.null,.null,.null,.null,.null,.null] .null∧oF0 Z h b4 (vI 4)∧oF1 Z h b4 (vR b5a)∧oF2 Z h b4 (vI 4)∧Arv Z h b6a k3 .int 3 [vI 1,vI 2,vI 3] (vI 0)∧Exa Z h b6a "[I"
set_option maxRecDepth 65536 in
set_option maxHeartbeats 40000000 in
theorem rm6a89 (l:Launch)(Z:State)(a0:Array Value)(hw:HW a0 Z)(ws:List Jvm.Cond)(b7 b8 b16a:Addr)(k7 k16b:ClassId)(b16c b16d b16e:Addr)(h0:Heap)(n0:Nat)(Z0:n0≤h0.size)(PE9:Exa Z h0 b8 "java/util/ArrayList")(PF10:oF0 Z h0 b8 (vI 3))(PF11:oF1 Z h0 b8 (vR b16a))(PF12:oF2 Z h0 b8 (vI 3))(PV13:Arv Z h0 b7 k7 .int 3 [vI 1,vI 2,vI 3] (vI 0))(PE14:Exa Z h0 b7 "[I")(PV15:Arv Z h0 b16a k16b (.object oOb) 10 [vR b16c,vR b16d,vR b16e,.null,.null,.null,.null,.null,.null,.null] .null)(ov_b16a:Ovr Z k16b oOb)(ne_b8_b16a:b8≠b16a)(ne_b16a_b8:b16a≠b8)(ne_b8_b7:b8≠b7)(ne_b16a_b7:b16a≠b7)(ne_b7_b8:b7≠b8)(ne_b7_b16a:b7≠b16a)(n_b7:n0≤b7)(n_b8:n0≤b8)(n_b16a:n0≤b16a) :
    own_Met l mn9 prog_28_method_10_code 7 none ws (oRm 4 1 3 64) #[vI 4,vI 3,vI 2,vR b7,vI 1,vR b8] Z h0 (Q6a89 Z b7 b8 b16a k7 k16b b16c b16d b16e h0 n0):=by
  refine own_met (own:=oLy) rfl (plainFor_of_name pn_0) ?_
  intro p e s m below meth c s₁ hx hby hml hZ hown hnm X0 e0 Br Bs
  have N0:=Fr.nil n0
  have tt:=own_tt hx hby own_ok6
  refine oV 0 #[oI 4,oI 3,oI 2,oR b7,oI 1,oR b8,oU] [] ?_
  refine oG X0 tt 15 43 #[oI 4,oI 3,oI 2,oR b7,oI 1,oR b8,oI 2] [vI 2,vI 1,vR b7] rfl ?_
  obtain ⟨T17,h17,X17,e17,W17,V17,st17⟩:=own_stI X0 hx hZ e0 PV13 (j:=(1:Int32)) ⟨by decide,by decide⟩ 1 rfl (Nat.le_of_ble_eq_true rfl) (g:=(mkF m 43 #[oI 4,oI 3,oI 2,oR b7,oI 1,oR b8,oI 2] [vI 2,vI 1,vR b7])) rfl rfl (hb hby d6_43)
  have K17:Keep h0 h17 [b7,b16a,b8]:=(Keep.refl h0 [b7,b16a,b8]).wr W17 oI0
  have V17s:Arv Z h17 b7 k7 .int 3 [vI 1,vI 2,vI 3] (vI 0):=V17
  have N17:=Fr.snoc X17 N0 n_b7
  refine oH st17 X17 tt 10 57 #[oI 4,oI 3,oI 2,oR b7,oI 1,oR b8,oI 2] [vR b8,vI 2,vR b7,vI 3,vI 3,vI 4] rfl ?_
  refine own_cS X17 hx hZ hown e17 (ow35 hw) (ow36 hw) (ow3 hw) (ow37 hw) (y:=mn9) (argsL:=[vI 4,vI 3,vI 3,vR b7,vI 2,vR b8]) (rest:=[]) (W:=0) hml.symm (hb hby d6_57) (lenOf pd9 rfl) rfl (by decide) (rm6a90 l Z a0 hw [] b7 b8 b16a k7 k16b b16c b16d b16e h17 n0 (oT Z0 (Keep.of_wr W17).1) (PE9.wr W17) (PF10.other W17 (Or.inl ne_b8_b7)) (PF11.other W17 (Or.inl ne_b8_b7)) (PF12.other W17 (Or.inl ne_b8_b7)) V17s (PE14.wr W17) (PV15.other W17 ne_b16a_b7) ov_b16a ne_b8_b16a ne_b16a_b8 ne_b8_b7 ne_b16a_b7 ne_b7_b8 ne_b7_b16a n_b7 n_b8 n_b16a) fun _ T18 _ X18 hQ18=>?_
  obtain ⟨b18a,rfl,N18q,K18,n_b18a,sg_b18a,g18_0,g18_1,g18_2,g18_3,g18_4,g18_5,g18_6⟩:=hQ18
  have N18:=Fr.app N17 N18q
  have sz_b18a:=oT K17.1 sg_b18a
  have eK18:T18.heap = T18.heap:=rfl
  have KK18:Keep h0 T18.heap [b7,b16a,b8]:=Keep.trans K17 K18 (allS oI0 (allS oI2 (allS oI1 all0)))
  obtain ⟨_,X18,N18⟩:=own_hide X18 N18
  refine oV 60 #[oI 4,oI 3,oI 2,oR b7,oI 1,oR b8,oI 2] [] ?_
  refine oG X18 tt 9 66 #[oI 4,oI 3,oI 2,oR b7,oI 1,oR b8,oI 3] [] rfl ?_
  refine own_ret X18 (v:=none) (fun _=>rfl) Bs (fun fs hr=>X18.returnOut hx Br (hb hby d6_66) hr) ?_ (by decide) (by decide)
  unfold Q6a89
  rw [eK18]
  exact ⟨b18a,rfl,N18,KK18,n_b18a,sz_b18a,g18_0,g18_4,g18_1,g18_2,g18_3,g18_5,g18_6⟩
def Q6a82 (Z:State)(b3 b4:Addr)(k3:ClassId)(h0:Heap)(n0:Nat)(v:Option Value)(h:Heap)(L:List Loc):Prop:=∃ (b5a:Addr)(k5b:ClassId)(b5c b5d b5e b6a:Addr),v = none∧Fr n0 L∧Keep h0 h [b3,b4]∧n0≤b5a∧h0.size≤b5a∧n0≤b5c∧h0.size≤b5c∧n0≤b5d∧h0.size≤b5d∧n0≤b5e∧h0.size≤b5e∧n0≤b6a∧h0.size≤b6a∧b5c≠b5a∧b5d≠b5a∧b5d≠b5c∧b5e≠b5a∧b5e≠b5c∧b5e≠b5d∧b6a≠b5a∧b6a≠b5c∧b6a≠b5d∧b6a≠b5e∧Arv Z h b3 k3 .int 3 [vI 1,vI 2,vI 3] (vI 0)∧oF0 Z h b4 (vI 4)∧oF1 Z h b4 (vR b5a)∧oF2 Z h b4 (vI 4)∧Arv Z h b5a k5b (.object oOb) 10 [vR b5c,vR b5d,vR b5e,vR b6a,.null,.null,.null,.null,.null,.null] .null∧Ovr Z k5b oOb∧Arv Z h b5c k3 .int 3 [vI 0,vI 1,vI 2] (vI 0)∧Exa Z h b5c "[I"∧Arv Z h b5d k3 .int 3 [vI 0,vI 1,vI 3] (vI 0)∧Exa Z h b5d "[I"∧Arv Z h b5e k3 .int 3 [vI 0,vI 2,vI 3] (vI 0)∧Exa Z h b5e "[I"∧Arv Z h b6a k3 .int 3 [vI 1,vI 2,vI 3] (vI 0)∧Exa Z h b6a "[I"
set_option maxRecDepth 65536 in
set_option maxHeartbeats 40000000 in
theorem rm6a82 (l:Launch)(Z:State)(a0:Array Value)(hw:HW a0 Z)(ws:List Jvm.Cond)(b15 b16 wd:Addr)(kd k15:ClassId)(h0:Heap)(n0:Nat)(Z0:n0≤h0.size)(PS0:Sta Z h0 "java/util/ArrayList" "DEFAULTCAPACITY_EMPTY_ELEMENTDATA" "[Ljava/lang/Object;" (vR wd))(PV1:Arv Z h0 wd kd (.object oOb) 0 [] .null)(PE9:Exa Z h0 b16 "java/util/ArrayList")(PF10:oF0 Z h0 b16 (vI 0))(PF11:oF1 Z h0 b16 (vR wd))(PF12:oF2 Z h0 b16 (vI 0))(PV13:Arv Z h0 b15 k15 .int 3 [vI 0,vI 0,vI 0] (vI 0))(PE14:Exa Z h0 b15 "[I")(ne_wd_b16:wd≠b16)(ne_wd_b15:wd≠b15)(ne_b16_b15:b16≠b15)(ne_b15_b16:b15≠b16)(n_b15:n0≤b15)(n_b16:n0≤b16) :
    own_Met l mn9 prog_28_method_10_code 7 none ws (oRm 8 5 22 123) #[vI 4,vI 3,vI 0,vR b15,vI 0,vR b16] Z h0 (Q6a82 Z b15 b16 k15 h0 n0):=by
  refine own_met (own:=oLy) rfl (plainFor_of_name pn_0) ?_
  intro p e s m below meth c s₁ hx hby hml hZ hown hnm X0 e0 Br Bs
  have N0:=Fr.nil n0
  have tt:=own_tt hx hby own_ok6
  refine oV 0 #[oI 4,oI 3,oI 0,oR b15,oI 0,oR b16,oU] [] ?_
  refine oG X0 tt 15 43 #[oI 4,oI 3,oI 0,oR b15,oI 0,oR b16,oI 0] [vI 0,vI 0,vR b15] rfl ?_
  obtain ⟨T17,h17,X17,e17,W17,V17,st17⟩:=own_stI X0 hx hZ e0 PV13 (j:=(0:Int32)) ⟨by decide,by decide⟩ 0 rfl (Nat.le_of_ble_eq_true rfl) (g:=(mkF m 43 #[oI 4,oI 3,oI 0,oR b15,oI 0,oR b16,oI 0] [vI 0,vI 0,vR b15])) rfl rfl (hb hby d6_43)
  have K17:Keep h0 h17 [b15,b16]:=(Keep.refl h0 [b15,b16]).wr W17 oI0
  have V17s:Arv Z h17 b15 k15 .int 3 [vI 0,vI 0,vI 0] (vI 0):=V17
  have N17:=Fr.snoc X17 N0 n_b15
  refine oH st17 X17 tt 10 57 #[oI 4,oI 3,oI 0,oR b15,oI 0,oR b16,oI 0] [vR b16,vI 1,vR b15,vI 1,vI 3,vI 4] rfl ?_
  refine own_cS X17 hx hZ hown e17 (ow35 hw) (ow36 hw) (ow3 hw) (ow37 hw) (y:=mn9) (argsL:=[vI 4,vI 3,vI 1,vR b15,vI 1,vR b16]) (rest:=[]) (W:=0) hml.symm (hb hby d6_57) (lenOf pd9 rfl) rfl (by decide) (rm6a83 l Z a0 hw [] b15 b16 wd kd k15 h17 n0 (oT Z0 (Keep.of_wr W17).1) (PS0.wr W17) (PV1.other W17 ne_wd_b15) (PE9.wr W17) (PF10.other W17 (Or.inl ne_b16_b15)) (PF11.other W17 (Or.inl ne_b16_b15)) (PF12.other W17 (Or.inl ne_b16_b15)) V17s (PE14.wr W17) ne_wd_b16 ne_wd_b15 ne_b16_b15 ne_b15_b16 n_b15 n_b16) fun _ T18 _ X18 hQ18=>?_
  obtain ⟨b18a,k18b,b18c,b18d,b18e,rfl,N18q,K18,n_b18a,sg_b18a,n_b18c,sg_b18c,n_b18d,sg_b18d,n_b18e,sg_b18e,ne18_0,ne18_1,ne18_2,ne18_3,ne18_4,ne18_5,g18_0,g18_1,g18_2,g18_3,g18_4,g18_5,g18_6,g18_7,g18_8,g18_9,g18_10,g18_11⟩:=hQ18
  have N18:=Fr.app N17 N18q
  have sz_b18a:=oT K17.1 sg_b18a
  have sz_b18c:=oT K17.1 sg_b18c
  have sz_b18d:=oT K17.1 sg_b18d
  have sz_b18e:=oT K17.1 sg_b18e
  have eK18:T18.heap = T18.heap:=rfl
  have KK18:Keep h0 T18.heap [b15,b16]:=Keep.trans K17 K18 (allS oI0 (allS oI1 all0))
  obtain ⟨_,X18,N18⟩:=own_hide X18 N18
  refine oV 60 #[oI 4,oI 3,oI 0,oR b15,oI 0,oR b16,oI 0] [] ?_
  refine oG X18 tt 12 43 #[oI 4,oI 3,oI 0,oR b15,oI 0,oR b16,oI 1] [vI 1,vI 0,vR b15] rfl ?_
  obtain ⟨T19,h19,X19,e19,W19,V19,st19⟩:=own_stI X18 hx hZ eK18 g18_0 (j:=(0:Int32)) ⟨by decide,by decide⟩ 0 rfl (Nat.le_of_ble_eq_true rfl) (g:=(mkF m 43 #[oI 4,oI 3,oI 0,oR b15,oI 0,oR b16,oI 1] [vI 1,vI 0,vR b15])) rfl rfl (hb hby d6_43)
  have K19:Keep h0 h19 [b15,b16]:=KK18.wr W19 oI0
  have V19s:Arv Z h19 b15 k15 .int 3 [vI 1,vI 2,vI 3] (vI 0):=V19
  have N19:=Fr.snoc X19 N18 n_b15
  refine oH st19 X19 tt 10 57 #[oI 4,oI 3,oI 0,oR b15,oI 0,oR b16,oI 1] [vR b16,vI 1,vR b15,vI 2,vI 3,vI 4] rfl ?_
  refine own_cS X19 hx hZ hown e19 (ow35 hw) (ow36 hw) (ow3 hw) (ow37 hw) (y:=mn9) (argsL:=[vI 4,vI 3,vI 2,vR b15,vI 1,vR b16]) (rest:=[]) (W:=0) hml.symm (hb hby d6_57) (lenOf pd9 rfl) rfl (by decide) (rm6a89 l Z a0 hw [] b15 b16 b18a k15 k18b b18c b18d b18e h19 n0 (oT (oT (oT Z0 (Keep.of_wr W17).1) K18.1) (Keep.of_wr W19).1) (((PE9.wr W17).keep K18).wr W19) (g18_1.other W19 (Or.inl ne_b16_b15)) (g18_2.other W19 (Or.inl ne_b16_b15)) (g18_3.other W19 (Or.inl ne_b16_b15)) V19s (((PE14.wr W17).keep K18).wr W19) (g18_4.other W19 (oM PV13.lt sz_b18a)) g18_5 (oL PE9.lt sz_b18a) (oM PE9.lt sz_b18a) ne_b16_b15 (oM PV13.lt sz_b18a) ne_b15_b16 (oL PV13.lt sz_b18a) n_b15 n_b16 n_b18a) fun _ T20 _ X20 hQ20=>?_
  obtain ⟨b20a,rfl,N20q,K20,n_b20a,sg_b20a,g20_0,g20_1,g20_2,g20_3,g20_4,g20_5,g20_6⟩:=hQ20
  have N20:=Fr.app N19 N20q
  have sz_b20a:=oT K19.1 sg_b20a
  have u21:=(oW g18_4.lt (Keep.of_wr W19).1)
  have u22:=(oW g18_6.lt (Keep.of_wr W19).1)
  have u23:=(oW g18_8.lt (Keep.of_wr W19).1)
  have u24:=(oW g18_10.lt (Keep.of_wr W19).1)
  have m25:h17.size≤h19.size:=(oT (oT (Nat.le_refl _) K18.1) (Keep.of_wr W19).1)
  have eK20:T20.heap = T20.heap:=rfl
  have KK20:Keep h0 T20.heap [b15,b16]:=Keep.trans K19 K20 (allS oI0 (allS (Or.inr sz_b18a) (allS oI1 all0)))
  obtain ⟨_,X20,N20⟩:=own_hide X20 N20
  refine oV 60 #[oI 4,oI 3,oI 0,oR b15,oI 0,oR b16,oI 1] [] ?_
  refine oG X20 tt 9 66 #[oI 4,oI 3,oI 0,oR b15,oI 0,oR b16,oI 2] [] rfl ?_
  refine own_ret X20 (v:=none) (fun _=>rfl) Bs (fun fs hr=>X20.returnOut hx Br (hb hby d6_66) hr) ?_ (by decide) (by decide)
  unfold Q6a82
  have G26:=((g18_6.other W19 (oM PV13.lt sz_b18c)).keep K20 (ninS (oM PV13.lt sz_b18c) (ninS ne18_0 (ninS (oM PE9.lt sz_b18c) nin0))))
  have G27:=((g18_8.other W19 (oM PV13.lt sz_b18d)).keep K20 (ninS (oM PV13.lt sz_b18d) (ninS ne18_1 (ninS (oM PE9.lt sz_b18d) nin0))))
  have G28:=((g18_10.other W19 (oM PV13.lt sz_b18e)).keep K20 (ninS (oM PV13.lt sz_b18e) (ninS ne18_3 (ninS (oM PE9.lt sz_b18e) nin0))))
  rw [eK20]
  exact ⟨b18a,k18b,b18c,b18d,b18e,b20a,rfl,N20,KK20,n_b18a,sz_b18a,n_b18c,sz_b18c,n_b18d,sz_b18d,n_b18e,sz_b18e,n_b20a,sz_b20a,ne18_0,ne18_1,ne18_2,ne18_3,ne18_4,ne18_5,(oM u21 sg_b20a),(oM u22 sg_b20a),(oM u23 sg_b20a),(oM u24 sg_b20a),g20_0,g20_2,g20_3,g20_4,g20_1,g18_5,G26,((g18_7.wr W19).keep K20),G27,((g18_9.wr W19).keep K20),G28,((g18_11.wr W19).keep K20),g20_5,g20_6⟩
def Q12a94 (Z:State)  (h0:Heap)(n0:Nat)(v:Option Value)(h:Heap)(L:List Loc):Prop:=v = some (vI 4)∧Fr n0 L∧h = h0
set_option maxRecDepth 65536 in
set_option maxHeartbeats 40000000 in
theorem rm12a94 (l:Launch)(Z:State)(a0:Array Value)(hw:HW a0 Z)(ws:List Jvm.Cond)(b3:Addr)(h0:Heap)(n0:Nat)(Z0:n0≤h0.size)(PF12:oF2 Z h0 b3 (vI 4)) :
    own_Met l mn10 jdk_38_method_8_code 1 (some .int) ws (oRm 0 0 0 0) #[vR b3] Z h0 (Q12a94 Z  h0 n0):=by
  refine own_met (own:="java/util/ArrayList") rfl (plainFor_of_name pn_6) ?_
  intro p e s m below meth c s₁ hx hby hml hZ hown hnm X0 e0 Br Bs
  have N0:=Fr.nil n0
  have tt:=own_tt hx hby own_ok12
  refine oV 0 #[oR b3] [] ?_
  refine oX2 a0 [b3] [0] [fE12_48 0 (vI 4)] [] [] [] 1 [oR 0] [] [] 4 [oR 0] [vI 4] [] tt hZ hown X0 N0 e0 (oA (ow58 hw) trivial) trivial (oA PF12 trivial) trivial (Or.inl rfl) trivial rfl rfl (by decide +kernel) 2 (by decide +kernel) fun T4 h4 _ X4 N4 e4 K4 q4 M4=>?_
  have e4:=e4.trans (q4 rfl)
  refine oV 4 #[oR b3] [vI 4] ?_
  refine own_ret X4 (v:=some (vI 4)) (oN Br) Bs (fun fs hr=>retI X4 hx Br (hb hby d12_4) hr) ?_ (by decide) (by decide)
  unfold Q12a94
  exact ⟨rfl,N4,e4⟩
def Q15a97 (Z:State)  (h0:Heap)(n0:Nat)(v:Option Value)(h:Heap)(L:List Loc):Prop:=v = some (vI 0)∧Fr n0 L∧h = h0
set_option maxRecDepth 65536 in
set_option maxHeartbeats 40000000 in
theorem rm15a97 (l:Launch)(Z:State)(a0:Array Value)(hw:HW a0 Z)(ws:List Jvm.Cond)  (h0:Heap)(n0:Nat)(Z0:n0≤h0.size) :
    own_Met l mn12 jdk_41_method_11_code 3 (some .int) ws (oRm 0 0 0 0) #[vI 0,vI 4,.null] Z h0 (Q15a97 Z  h0 n0):=by
  refine own_met (own:="jdk/internal/util/Preconditions") rfl (plainFor_of_name pn_8) ?_
  intro p e s m below meth c s₁ hx hby hml hZ hown hnm X0 e0 Br Bs
  have N0:=Fr.nil n0
  have tt:=own_tt hx hby own_ok15
  refine oV 0 #[oI 0,oI 4,.val .null] [] ?_
  refine oG X0 tt 6 17 #[oI 0,oI 4,.val .null] [vI 0] rfl ?_
  refine own_ret X0 (v:=some (vI 0)) (oN Br) Bs (fun fs hr=>retI X0 hx Br (hb hby d15_17) hr) ?_ (by decide) (by decide)
  unfold Q15a97
  exact ⟨rfl,N0,e0⟩
def Q14a96 (Z:State)  (h0:Heap)(n0:Nat)(v:Option Value)(h:Heap)(L:List Loc):Prop:=v = some (vI 0)∧Fr n0 L∧h = h0
set_option maxRecDepth 65536 in
set_option maxHeartbeats 40000000 in
theorem rm14a96 (l:Launch)(Z:State)(a0:Array Value)(hw:HW a0 Z)(ws:List Jvm.Cond)  (h0:Heap)(n0:Nat)(Z0:n0≤h0.size) :
    own_Met l mn13 jdk_31_method_17_code 2 (some .int) ws (oRm 1 0 0 14) #[vI 0,vI 4] Z h0 (Q14a96 Z  h0 n0):=by
  refine own_met (own:="java/util/Objects") rfl (plainFor_of_name pn_7) ?_
  intro p e s m below meth c s₁ hx hby hml hZ hown hnm X0 e0 Br Bs
  have N0:=Fr.nil n0
  have tt:=own_tt hx hby own_ok14
  refine oV 0 #[oI 0,oI 4] [] ?_
  refine oG X0 tt 3 3 #[oI 0,oI 4] [.null,vI 4,vI 0] rfl ?_
  refine own_cS X0 hx hZ hown e0 (ow111 hw) (ow112 hw) (ow113 hw) (ow114 hw) (y:=mn12) (argsL:=[vI 0,vI 4,.null]) (rest:=[]) (W:=0) hml.symm (hb hby d14_3) (lenOf pd11 rfl) rfl (by decide) (rm15a97 l Z a0 hw []  h0 n0 Z0 ) fun _ T3 _ X3 hQ3=>?_
  obtain ⟨rfl,N3q,hh3⟩:=hQ3
  have N3:=Fr.app N0 N3q
  obtain ⟨_,X3,N3⟩:=own_hide X3 N3
  refine oV 6 #[oI 0,oI 4] [vI 0] ?_
  refine own_ret X3 (v:=some (vI 0)) (oN Br) Bs (fun fs hr=>retI X3 hx Br (hb hby d14_6) hr) ?_ (by decide) (by decide)
  unfold Q14a96
  exact ⟨rfl,N3,hh3⟩
def Q16a98 (Z:State)(b3c:Addr)(h0:Heap)(n0:Nat)(v:Option Value)(h:Heap)(L:List Loc):Prop:=v = some (vR b3c)∧Fr n0 L∧h = h0
set_option maxRecDepth 65536 in
set_option maxHeartbeats 40000000 in
theorem rm16a98 (l:Launch)(Z:State)(a0:Array Value)(hw:HW a0 Z)(ws:List Jvm.Cond)(b3 b4a:Addr)(k4b:ClassId)(b4c b4d b4e b4f:Addr)(h0:Heap)(n0:Nat)(Z0:n0≤h0.size)(PF11:oF1 Z h0 b3 (vR b4a))(PV15:Arv Z h0 b4a k4b (.object oOb) 10 [vR b4c,vR b4d,vR b4e,vR b4f,.null,.null,.null,.null,.null,.null] .null) :
    own_Met l mn14 jdk_38_method_18_code 2 (some (.object oOb)) ws (oRm 0 0 0 0) #[vR b3,vI 0] Z h0 (Q16a98 Z b4c h0 n0):=by
  refine own_met (own:="java/util/ArrayList") rfl (plainFor_of_name pn_6) ?_
  intro p e s m below meth c s₁ hx hby hml hZ hown hnm X0 e0 Br Bs
  have N0:=Fr.nil n0
  have tt:=own_tt hx hby own_ok16
  refine oV 0 #[oR b3,oI 0] [] ?_
  refine oX2 a0 [b3,b4a,b4c,b4d,b4e,b4f] [0,k4b,0,0,0,0] [fE16_9 0 (vR 1)] [] [] [1] 6 [oR 0,oI 0] [] [(1,(.object oOb),10,[vR 2,vR 3,vR 4,vR 5,.null,.null,.null,.null,.null,.null])] 6 [oR 0,oI 0] [vR 2] [] tt hZ hown X0 N0 e0 (oA (ow33 hw) trivial) trivial (oA PF11 trivial) (oA PV15 trivial) (Or.inl rfl) trivial rfl rfl (by decide +kernel) 4 (by decide +kernel) fun T5 h5 _ X5 N5 e5 K5 q5 M5=>?_
  have e5:=e5.trans (q5 rfl)
  refine oV 6 #[oR b3,oI 0] [vR b4c] ?_
  refine own_ret X5 (v:=some (vR b4c)) (oN Br) Bs (fun fs hr=>own_retA X5 hx Br rfl rfl (hb hby d16_6) hr) ?_ (by decide) (by decide)
  unfold Q16a98
  exact ⟨rfl,N5,e5⟩
def Q13a95 (Z:State)(b3c:Addr)(h0:Heap)(n0:Nat)(v:Option Value)(h:Heap)(L:List Loc):Prop:=v = some (vR b3c)∧Fr n0 L∧h = h0
set_option maxRecDepth 65536 in
set_option maxHeartbeats 40000000 in
theorem rm13a95 (l:Launch)(Z:State)(a0:Array Value)(hw:HW a0 Z)(ws:List Jvm.Cond)(b3 b4a:Addr)(k4b:ClassId)(b4c b4d b4e b4f:Addr)(h0:Heap)(n0:Nat)(Z0:n0≤h0.size)(PE9:Exa Z h0 b3 "java/util/ArrayList")(PF11:oF1 Z h0 b3 (vR b4a))(PF12:oF2 Z h0 b3 (vI 4))(PV15:Arv Z h0 b4a k4b (.object oOb) 10 [vR b4c,vR b4d,vR b4e,vR b4f,.null,.null,.null,.null,.null,.null] .null) :
    own_Met l mn15 jdk_38_method_20_code 2 (some (.object oOb)) ws (oRm 2 0 0 27) #[vR b3,vI 0] Z h0 (Q13a95 Z b4c h0 n0):=by
  refine own_met (own:="java/util/ArrayList") rfl (plainFor_of_name pn_6) ?_
  intro p e s m below meth c s₁ hx hby hml hZ hown hnm X0 e0 Br Bs
  have N0:=Fr.nil n0
  have tt:=own_tt hx hby own_ok13
  refine oV 0 #[oR b3,oI 0] [] ?_
  refine oX2 a0 [b3] [0] [fE13_48 0 (vI 4)] [] [] [] 1 [oR 0,oI 0] [] [] 5 [oR 0,oI 0] [vI 4,vI 0] [] tt hZ hown X0 N0 e0 (oA (ow58 hw) trivial) trivial (oA PF12 trivial) trivial (Or.inl rfl) trivial rfl rfl (by decide +kernel) 3 (by decide +kernel) fun T5 h5 _ X5 N5 e5 K5 q5 M5=>?_
  have e5:=e5.trans (q5 rfl)
  refine oV 5 #[oR b3,oI 0] [vI 4,vI 0] ?_
  refine own_cS X5 hx hZ hown e5 (ow107 hw) (ow108 hw) (ow109 hw) (ow110 hw) (y:=mn13) (argsL:=[vI 0,vI 4]) (rest:=[]) (W:=0) hml.symm (hb hby d13_5) (lenOf pd7 rfl) rfl (by decide) (rm14a96 l Z a0 hw []  h0 n0 Z0 ) fun _ T6 _ X6 hQ6=>?_
  obtain ⟨rfl,N6q,hh6⟩:=hQ6
  have N6:=Fr.app N5 N6q
  obtain ⟨_,X6,N6⟩:=own_hide X6 N6
  refine oV 8 #[oR b3,oI 0] [vI 0] ?_
  refine oG X6 tt 3 11 #[oR b3,oI 0] [vI 0,vR b3] rfl ?_
  refine own_cV X6 hx hZ hown hh6 (ow115 hw) (ow116 hw) (notFace_of_selects (args:=#[]) (mvT hZ (ow118 hw))) (ow118 hw) (ow117 hw) (ow13 hw) (ow119 hw) PE9 (y:=mn14) (z:=mn14) (argsL:=[vI 0]) (rest:=[]) (W:=0) hml.symm (hb hby d13_11) (lenOf pd5 rfl) rfl (by decide) (rm16a98 l Z a0 hw [] b3 b4a k4b b4c b4d b4e b4f h0 n0 Z0 PF11 PV15) fun _ T7 _ X7 hQ7=>?_
  obtain ⟨rfl,N7q,hh7⟩:=hQ7
  have N7:=Fr.app N6 N7q
  obtain ⟨_,X7,N7⟩:=own_hide X7 N7
  refine oV 14 #[oR b3,oI 0] [vR b4c] ?_
  refine own_ret X7 (v:=some (vR b4c)) (oN Br) Bs (fun fs hr=>own_retA X7 hx Br rfl rfl (hb hby d13_14) hr) ?_ (by decide) (by decide)
  unfold Q13a95
  exact ⟨rfl,N7,hh7⟩
def Q15a101 (Z:State)  (h0:Heap)(n0:Nat)(v:Option Value)(h:Heap)(L:List Loc):Prop:=v = some (vI 1)∧Fr n0 L∧h = h0
set_option maxRecDepth 65536 in
set_option maxHeartbeats 40000000 in
theorem rm15a101 (l:Launch)(Z:State)(a0:Array Value)(hw:HW a0 Z)(ws:List Jvm.Cond)  (h0:Heap)(n0:Nat)(Z0:n0≤h0.size) :
    own_Met l mn12 jdk_41_method_11_code 3 (some .int) ws (oRm 0 0 0 0) #[vI 1,vI 4,.null] Z h0 (Q15a101 Z  h0 n0):=by
  refine own_met (own:="jdk/internal/util/Preconditions") rfl (plainFor_of_name pn_8) ?_
  intro p e s m below meth c s₁ hx hby hml hZ hown hnm X0 e0 Br Bs
  have N0:=Fr.nil n0
  have tt:=own_tt hx hby own_ok15
  refine oV 0 #[oI 1,oI 4,.val .null] [] ?_
  refine oG X0 tt 6 17 #[oI 1,oI 4,.val .null] [vI 1] rfl ?_
  refine own_ret X0 (v:=some (vI 1)) (oN Br) Bs (fun fs hr=>retI X0 hx Br (hb hby d15_17) hr) ?_ (by decide) (by decide)
  unfold Q15a101
  exact ⟨rfl,N0,e0⟩
def Q14a100 (Z:State)  (h0:Heap)(n0:Nat)(v:Option Value)(h:Heap)(L:List Loc):Prop:=v = some (vI 1)∧Fr n0 L∧h = h0
set_option maxRecDepth 65536 in
set_option maxHeartbeats 40000000 in
theorem rm14a100 (l:Launch)(Z:State)(a0:Array Value)(hw:HW a0 Z)(ws:List Jvm.Cond)  (h0:Heap)(n0:Nat)(Z0:n0≤h0.size) :
    own_Met l mn13 jdk_31_method_17_code 2 (some .int) ws (oRm 1 0 0 14) #[vI 1,vI 4] Z h0 (Q14a100 Z  h0 n0):=by
  refine own_met (own:="java/util/Objects") rfl (plainFor_of_name pn_7) ?_
  intro p e s m below meth c s₁ hx hby hml hZ hown hnm X0 e0 Br Bs
  have N0:=Fr.nil n0
  have tt:=own_tt hx hby own_ok14
  refine oV 0 #[oI 1,oI 4] [] ?_
  refine oG X0 tt 3 3 #[oI 1,oI 4] [.null,vI 4,vI 1] rfl ?_
  refine own_cS X0 hx hZ hown e0 (ow111 hw) (ow112 hw) (ow113 hw) (ow114 hw) (y:=mn12) (argsL:=[vI 1,vI 4,.null]) (rest:=[]) (W:=0) hml.symm (hb hby d14_3) (lenOf pd11 rfl) rfl (by decide) (rm15a101 l Z a0 hw []  h0 n0 Z0 ) fun _ T3 _ X3 hQ3=>?_
  obtain ⟨rfl,N3q,hh3⟩:=hQ3
  have N3:=Fr.app N0 N3q
  obtain ⟨_,X3,N3⟩:=own_hide X3 N3
  refine oV 6 #[oI 1,oI 4] [vI 1] ?_
  refine own_ret X3 (v:=some (vI 1)) (oN Br) Bs (fun fs hr=>retI X3 hx Br (hb hby d14_6) hr) ?_ (by decide) (by decide)
  unfold Q14a100
  exact ⟨rfl,N3,hh3⟩
def Q16a102 (Z:State)(b3d:Addr)(h0:Heap)(n0:Nat)(v:Option Value)(h:Heap)(L:List Loc):Prop:=v = some (vR b3d)∧Fr n0 L∧h = h0
set_option maxRecDepth 65536 in
set_option maxHeartbeats 40000000 in
theorem rm16a102 (l:Launch)(Z:State)(a0:Array Value)(hw:HW a0 Z)(ws:List Jvm.Cond)(b3 b4a:Addr)(k4b:ClassId)(b4c b4d b4e b4f:Addr)(h0:Heap)(n0:Nat)(Z0:n0≤h0.size)(PF11:oF1 Z h0 b3 (vR b4a))(PV15:Arv Z h0 b4a k4b (.object oOb) 10 [vR b4c,vR b4d,vR b4e,vR b4f,.null,.null,.null,.null,.null,.null] .null) :
    own_Met l mn14 jdk_38_method_18_code 2 (some (.object oOb)) ws (oRm 0 0 0 0) #[vR b3,vI 1] Z h0 (Q16a102 Z b4d h0 n0):=by
  refine own_met (own:="java/util/ArrayList") rfl (plainFor_of_name pn_6) ?_
  intro p e s m below meth c s₁ hx hby hml hZ hown hnm X0 e0 Br Bs
  have N0:=Fr.nil n0
  have tt:=own_tt hx hby own_ok16
  refine oV 0 #[oR b3,oI 1] [] ?_
  refine oX2 a0 [b3,b4a,b4c,b4d,b4e,b4f] [0,k4b,0,0,0,0] [fE16_9 0 (vR 1)] [] [] [1] 6 [oR 0,oI 1] [] [(1,(.object oOb),10,[vR 2,vR 3,vR 4,vR 5,.null,.null,.null,.null,.null,.null])] 6 [oR 0,oI 1] [vR 3] [] tt hZ hown X0 N0 e0 (oA (ow33 hw) trivial) trivial (oA PF11 trivial) (oA PV15 trivial) (Or.inl rfl) trivial rfl rfl (by decide +kernel) 4 (by decide +kernel) fun T5 h5 _ X5 N5 e5 K5 q5 M5=>?_
  have e5:=e5.trans (q5 rfl)
  refine oV 6 #[oR b3,oI 1] [vR b4d] ?_
  refine own_ret X5 (v:=some (vR b4d)) (oN Br) Bs (fun fs hr=>own_retA X5 hx Br rfl rfl (hb hby d16_6) hr) ?_ (by decide) (by decide)
  unfold Q16a102
  exact ⟨rfl,N5,e5⟩
def Q13a99 (Z:State)(b3d:Addr)(h0:Heap)(n0:Nat)(v:Option Value)(h:Heap)(L:List Loc):Prop:=v = some (vR b3d)∧Fr n0 L∧h = h0
set_option maxRecDepth 65536 in
set_option maxHeartbeats 40000000 in
theorem rm13a99 (l:Launch)(Z:State)(a0:Array Value)(hw:HW a0 Z)(ws:List Jvm.Cond)(b3 b4a:Addr)(k4b:ClassId)(b4c b4d b4e b4f:Addr)(h0:Heap)(n0:Nat)(Z0:n0≤h0.size)(PE9:Exa Z h0 b3 "java/util/ArrayList")(PF11:oF1 Z h0 b3 (vR b4a))(PF12:oF2 Z h0 b3 (vI 4))(PV15:Arv Z h0 b4a k4b (.object oOb) 10 [vR b4c,vR b4d,vR b4e,vR b4f,.null,.null,.null,.null,.null,.null] .null) :
    own_Met l mn15 jdk_38_method_20_code 2 (some (.object oOb)) ws (oRm 2 0 0 27) #[vR b3,vI 1] Z h0 (Q13a99 Z b4d h0 n0):=by
  refine own_met (own:="java/util/ArrayList") rfl (plainFor_of_name pn_6) ?_
  intro p e s m below meth c s₁ hx hby hml hZ hown hnm X0 e0 Br Bs
  have N0:=Fr.nil n0
  have tt:=own_tt hx hby own_ok13
  refine oV 0 #[oR b3,oI 1] [] ?_
  refine oX2 a0 [b3] [0] [fE13_48 0 (vI 4)] [] [] [] 1 [oR 0,oI 1] [] [] 5 [oR 0,oI 1] [vI 4,vI 1] [] tt hZ hown X0 N0 e0 (oA (ow58 hw) trivial) trivial (oA PF12 trivial) trivial (Or.inl rfl) trivial rfl rfl (by decide +kernel) 3 (by decide +kernel) fun T5 h5 _ X5 N5 e5 K5 q5 M5=>?_
  have e5:=e5.trans (q5 rfl)
  refine oV 5 #[oR b3,oI 1] [vI 4,vI 1] ?_
  refine own_cS X5 hx hZ hown e5 (ow107 hw) (ow108 hw) (ow109 hw) (ow110 hw) (y:=mn13) (argsL:=[vI 1,vI 4]) (rest:=[]) (W:=0) hml.symm (hb hby d13_5) (lenOf pd7 rfl) rfl (by decide) (rm14a100 l Z a0 hw []  h0 n0 Z0 ) fun _ T6 _ X6 hQ6=>?_
  obtain ⟨rfl,N6q,hh6⟩:=hQ6
  have N6:=Fr.app N5 N6q
  obtain ⟨_,X6,N6⟩:=own_hide X6 N6
  refine oV 8 #[oR b3,oI 1] [vI 1] ?_
  refine oG X6 tt 3 11 #[oR b3,oI 1] [vI 1,vR b3] rfl ?_
  refine own_cV X6 hx hZ hown hh6 (ow115 hw) (ow116 hw) (notFace_of_selects (args:=#[]) (mvT hZ (ow118 hw))) (ow118 hw) (ow117 hw) (ow13 hw) (ow119 hw) PE9 (y:=mn14) (z:=mn14) (argsL:=[vI 1]) (rest:=[]) (W:=0) hml.symm (hb hby d13_11) (lenOf pd5 rfl) rfl (by decide) (rm16a102 l Z a0 hw [] b3 b4a k4b b4c b4d b4e b4f h0 n0 Z0 PF11 PV15) fun _ T7 _ X7 hQ7=>?_
  obtain ⟨rfl,N7q,hh7⟩:=hQ7
  have N7:=Fr.app N6 N7q
  obtain ⟨_,X7,N7⟩:=own_hide X7 N7
  refine oV 14 #[oR b3,oI 1] [vR b4d] ?_
  refine own_ret X7 (v:=some (vR b4d)) (oN Br) Bs (fun fs hr=>own_retA X7 hx Br rfl rfl (hb hby d13_14) hr) ?_ (by decide) (by decide)
  unfold Q13a99
  exact ⟨rfl,N7,hh7⟩
def Q15a105 (Z:State)  (h0:Heap)(n0:Nat)(v:Option Value)(h:Heap)(L:List Loc):Prop:=v = some (vI 2)∧Fr n0 L∧h = h0
set_option maxRecDepth 65536 in
set_option maxHeartbeats 40000000 in
theorem rm15a105 (l:Launch)(Z:State)(a0:Array Value)(hw:HW a0 Z)(ws:List Jvm.Cond)  (h0:Heap)(n0:Nat)(Z0:n0≤h0.size) :
    own_Met l mn12 jdk_41_method_11_code 3 (some .int) ws (oRm 0 0 0 0) #[vI 2,vI 4,.null] Z h0 (Q15a105 Z  h0 n0):=by
  refine own_met (own:="jdk/internal/util/Preconditions") rfl (plainFor_of_name pn_8) ?_
  intro p e s m below meth c s₁ hx hby hml hZ hown hnm X0 e0 Br Bs
  have N0:=Fr.nil n0
  have tt:=own_tt hx hby own_ok15
  refine oV 0 #[oI 2,oI 4,.val .null] [] ?_
  refine oG X0 tt 6 17 #[oI 2,oI 4,.val .null] [vI 2] rfl ?_
  refine own_ret X0 (v:=some (vI 2)) (oN Br) Bs (fun fs hr=>retI X0 hx Br (hb hby d15_17) hr) ?_ (by decide) (by decide)
  unfold Q15a105
  exact ⟨rfl,N0,e0⟩
def Q14a104 (Z:State)  (h0:Heap)(n0:Nat)(v:Option Value)(h:Heap)(L:List Loc):Prop:=v = some (vI 2)∧Fr n0 L∧h = h0
set_option maxRecDepth 65536 in
set_option maxHeartbeats 40000000 in
theorem rm14a104 (l:Launch)(Z:State)(a0:Array Value)(hw:HW a0 Z)(ws:List Jvm.Cond)  (h0:Heap)(n0:Nat)(Z0:n0≤h0.size) :
    own_Met l mn13 jdk_31_method_17_code 2 (some .int) ws (oRm 1 0 0 14) #[vI 2,vI 4] Z h0 (Q14a104 Z  h0 n0):=by
  refine own_met (own:="java/util/Objects") rfl (plainFor_of_name pn_7) ?_
  intro p e s m below meth c s₁ hx hby hml hZ hown hnm X0 e0 Br Bs
  have N0:=Fr.nil n0
  have tt:=own_tt hx hby own_ok14
  refine oV 0 #[oI 2,oI 4] [] ?_
  refine oG X0 tt 3 3 #[oI 2,oI 4] [.null,vI 4,vI 2] rfl ?_
  refine own_cS X0 hx hZ hown e0 (ow111 hw) (ow112 hw) (ow113 hw) (ow114 hw) (y:=mn12) (argsL:=[vI 2,vI 4,.null]) (rest:=[]) (W:=0) hml.symm (hb hby d14_3) (lenOf pd11 rfl) rfl (by decide) (rm15a105 l Z a0 hw []  h0 n0 Z0 ) fun _ T3 _ X3 hQ3=>?_
  obtain ⟨rfl,N3q,hh3⟩:=hQ3
  have N3:=Fr.app N0 N3q
  obtain ⟨_,X3,N3⟩:=own_hide X3 N3
  refine oV 6 #[oI 2,oI 4] [vI 2] ?_
  refine own_ret X3 (v:=some (vI 2)) (oN Br) Bs (fun fs hr=>retI X3 hx Br (hb hby d14_6) hr) ?_ (by decide) (by decide)
  unfold Q14a104
  exact ⟨rfl,N3,hh3⟩
def Q16a106 (Z:State)(b3e:Addr)(h0:Heap)(n0:Nat)(v:Option Value)(h:Heap)(L:List Loc):Prop:=v = some (vR b3e)∧Fr n0 L∧h = h0
set_option maxRecDepth 65536 in
set_option maxHeartbeats 40000000 in
theorem rm16a106 (l:Launch)(Z:State)(a0:Array Value)(hw:HW a0 Z)(ws:List Jvm.Cond)(b3 b4a:Addr)(k4b:ClassId)(b4c b4d b4e b4f:Addr)(h0:Heap)(n0:Nat)(Z0:n0≤h0.size)(PF11:oF1 Z h0 b3 (vR b4a))(PV15:Arv Z h0 b4a k4b (.object oOb) 10 [vR b4c,vR b4d,vR b4e,vR b4f,.null,.null,.null,.null,.null,.null] .null) :
    own_Met l mn14 jdk_38_method_18_code 2 (some (.object oOb)) ws (oRm 0 0 0 0) #[vR b3,vI 2] Z h0 (Q16a106 Z b4e h0 n0):=by
  refine own_met (own:="java/util/ArrayList") rfl (plainFor_of_name pn_6) ?_
  intro p e s m below meth c s₁ hx hby hml hZ hown hnm X0 e0 Br Bs
  have N0:=Fr.nil n0
  have tt:=own_tt hx hby own_ok16
  refine oV 0 #[oR b3,oI 2] [] ?_
  refine oX2 a0 [b3,b4a,b4c,b4d,b4e,b4f] [0,k4b,0,0,0,0] [fE16_9 0 (vR 1)] [] [] [1] 6 [oR 0,oI 2] [] [(1,(.object oOb),10,[vR 2,vR 3,vR 4,vR 5,.null,.null,.null,.null,.null,.null])] 6 [oR 0,oI 2] [vR 4] [] tt hZ hown X0 N0 e0 (oA (ow33 hw) trivial) trivial (oA PF11 trivial) (oA PV15 trivial) (Or.inl rfl) trivial rfl rfl (by decide +kernel) 4 (by decide +kernel) fun T5 h5 _ X5 N5 e5 K5 q5 M5=>?_
  have e5:=e5.trans (q5 rfl)
  refine oV 6 #[oR b3,oI 2] [vR b4e] ?_
  refine own_ret X5 (v:=some (vR b4e)) (oN Br) Bs (fun fs hr=>own_retA X5 hx Br rfl rfl (hb hby d16_6) hr) ?_ (by decide) (by decide)
  unfold Q16a106
  exact ⟨rfl,N5,e5⟩
def Q13a103 (Z:State)(b3e:Addr)(h0:Heap)(n0:Nat)(v:Option Value)(h:Heap)(L:List Loc):Prop:=v = some (vR b3e)∧Fr n0 L∧h = h0
set_option maxRecDepth 65536 in
set_option maxHeartbeats 40000000 in
theorem rm13a103 (l:Launch)(Z:State)(a0:Array Value)(hw:HW a0 Z)(ws:List Jvm.Cond)(b3 b4a:Addr)(k4b:ClassId)(b4c b4d b4e b4f:Addr)(h0:Heap)(n0:Nat)(Z0:n0≤h0.size)(PE9:Exa Z h0 b3 "java/util/ArrayList")(PF11:oF1 Z h0 b3 (vR b4a))(PF12:oF2 Z h0 b3 (vI 4))(PV15:Arv Z h0 b4a k4b (.object oOb) 10 [vR b4c,vR b4d,vR b4e,vR b4f,.null,.null,.null,.null,.null,.null] .null) :
    own_Met l mn15 jdk_38_method_20_code 2 (some (.object oOb)) ws (oRm 2 0 0 27) #[vR b3,vI 2] Z h0 (Q13a103 Z b4e h0 n0):=by
  refine own_met (own:="java/util/ArrayList") rfl (plainFor_of_name pn_6) ?_
  intro p e s m below meth c s₁ hx hby hml hZ hown hnm X0 e0 Br Bs
  have N0:=Fr.nil n0
  have tt:=own_tt hx hby own_ok13
  refine oV 0 #[oR b3,oI 2] [] ?_
  refine oX2 a0 [b3] [0] [fE13_48 0 (vI 4)] [] [] [] 1 [oR 0,oI 2] [] [] 5 [oR 0,oI 2] [vI 4,vI 2] [] tt hZ hown X0 N0 e0 (oA (ow58 hw) trivial) trivial (oA PF12 trivial) trivial (Or.inl rfl) trivial rfl rfl (by decide +kernel) 3 (by decide +kernel) fun T5 h5 _ X5 N5 e5 K5 q5 M5=>?_
  have e5:=e5.trans (q5 rfl)
  refine oV 5 #[oR b3,oI 2] [vI 4,vI 2] ?_
  refine own_cS X5 hx hZ hown e5 (ow107 hw) (ow108 hw) (ow109 hw) (ow110 hw) (y:=mn13) (argsL:=[vI 2,vI 4]) (rest:=[]) (W:=0) hml.symm (hb hby d13_5) (lenOf pd7 rfl) rfl (by decide) (rm14a104 l Z a0 hw []  h0 n0 Z0 ) fun _ T6 _ X6 hQ6=>?_
  obtain ⟨rfl,N6q,hh6⟩:=hQ6
  have N6:=Fr.app N5 N6q
  obtain ⟨_,X6,N6⟩:=own_hide X6 N6
  refine oV 8 #[oR b3,oI 2] [vI 2] ?_
  refine oG X6 tt 3 11 #[oR b3,oI 2] [vI 2,vR b3] rfl ?_
  refine own_cV X6 hx hZ hown hh6 (ow115 hw) (ow116 hw) (notFace_of_selects (args:=#[]) (mvT hZ (ow118 hw))) (ow118 hw) (ow117 hw) (ow13 hw) (ow119 hw) PE9 (y:=mn14) (z:=mn14) (argsL:=[vI 2]) (rest:=[]) (W:=0) hml.symm (hb hby d13_11) (lenOf pd5 rfl) rfl (by decide) (rm16a106 l Z a0 hw [] b3 b4a k4b b4c b4d b4e b4f h0 n0 Z0 PF11 PV15) fun _ T7 _ X7 hQ7=>?_
  obtain ⟨rfl,N7q,hh7⟩:=hQ7
  have N7:=Fr.app N6 N7q
  obtain ⟨_,X7,N7⟩:=own_hide X7 N7
  refine oV 14 #[oR b3,oI 2] [vR b4e] ?_
  refine own_ret X7 (v:=some (vR b4e)) (oN Br) Bs (fun fs hr=>own_retA X7 hx Br rfl rfl (hb hby d13_14) hr) ?_ (by decide) (by decide)
  unfold Q13a103
  exact ⟨rfl,N7,hh7⟩
def Q15a109 (Z:State)  (h0:Heap)(n0:Nat)(v:Option Value)(h:Heap)(L:List Loc):Prop:=v = some (vI 3)∧Fr n0 L∧h = h0
set_option maxRecDepth 65536 in
set_option maxHeartbeats 40000000 in
theorem rm15a109 (l:Launch)(Z:State)(a0:Array Value)(hw:HW a0 Z)(ws:List Jvm.Cond)  (h0:Heap)(n0:Nat)(Z0:n0≤h0.size) :
    own_Met l mn12 jdk_41_method_11_code 3 (some .int) ws (oRm 0 0 0 0) #[vI 3,vI 4,.null] Z h0 (Q15a109 Z  h0 n0):=by
  refine own_met (own:="jdk/internal/util/Preconditions") rfl (plainFor_of_name pn_8) ?_
  intro p e s m below meth c s₁ hx hby hml hZ hown hnm X0 e0 Br Bs
  have N0:=Fr.nil n0
  have tt:=own_tt hx hby own_ok15
  refine oV 0 #[oI 3,oI 4,.val .null] [] ?_
  refine oG X0 tt 6 17 #[oI 3,oI 4,.val .null] [vI 3] rfl ?_
  refine own_ret X0 (v:=some (vI 3)) (oN Br) Bs (fun fs hr=>retI X0 hx Br (hb hby d15_17) hr) ?_ (by decide) (by decide)
  unfold Q15a109
  exact ⟨rfl,N0,e0⟩
def Q14a108 (Z:State)  (h0:Heap)(n0:Nat)(v:Option Value)(h:Heap)(L:List Loc):Prop:=v = some (vI 3)∧Fr n0 L∧h = h0
set_option maxRecDepth 65536 in
set_option maxHeartbeats 40000000 in
theorem rm14a108 (l:Launch)(Z:State)(a0:Array Value)(hw:HW a0 Z)(ws:List Jvm.Cond)  (h0:Heap)(n0:Nat)(Z0:n0≤h0.size) :
    own_Met l mn13 jdk_31_method_17_code 2 (some .int) ws (oRm 1 0 0 14) #[vI 3,vI 4] Z h0 (Q14a108 Z  h0 n0):=by
  refine own_met (own:="java/util/Objects") rfl (plainFor_of_name pn_7) ?_
  intro p e s m below meth c s₁ hx hby hml hZ hown hnm X0 e0 Br Bs
  have N0:=Fr.nil n0
  have tt:=own_tt hx hby own_ok14
  refine oV 0 #[oI 3,oI 4] [] ?_
  refine oG X0 tt 3 3 #[oI 3,oI 4] [.null,vI 4,vI 3] rfl ?_
  refine own_cS X0 hx hZ hown e0 (ow111 hw) (ow112 hw) (ow113 hw) (ow114 hw) (y:=mn12) (argsL:=[vI 3,vI 4,.null]) (rest:=[]) (W:=0) hml.symm (hb hby d14_3) (lenOf pd11 rfl) rfl (by decide) (rm15a109 l Z a0 hw []  h0 n0 Z0 ) fun _ T3 _ X3 hQ3=>?_
  obtain ⟨rfl,N3q,hh3⟩:=hQ3
  have N3:=Fr.app N0 N3q
  obtain ⟨_,X3,N3⟩:=own_hide X3 N3
  refine oV 6 #[oI 3,oI 4] [vI 3] ?_
  refine own_ret X3 (v:=some (vI 3)) (oN Br) Bs (fun fs hr=>retI X3 hx Br (hb hby d14_6) hr) ?_ (by decide) (by decide)
  unfold Q14a108
  exact ⟨rfl,N3,hh3⟩
def Q16a110 (Z:State)(b3f:Addr)(h0:Heap)(n0:Nat)(v:Option Value)(h:Heap)(L:List Loc):Prop:=v = some (vR b3f)∧Fr n0 L∧h = h0
set_option maxRecDepth 65536 in
set_option maxHeartbeats 40000000 in
theorem rm16a110 (l:Launch)(Z:State)(a0:Array Value)(hw:HW a0 Z)(ws:List Jvm.Cond)(b3 b4a:Addr)(k4b:ClassId)(b4c b4d b4e b4f:Addr)(h0:Heap)(n0:Nat)(Z0:n0≤h0.size)(PF11:oF1 Z h0 b3 (vR b4a))(PV15:Arv Z h0 b4a k4b (.object oOb) 10 [vR b4c,vR b4d,vR b4e,vR b4f,.null,.null,.null,.null,.null,.null] .null) :
    own_Met l mn14 jdk_38_method_18_code 2 (some (.object oOb)) ws (oRm 0 0 0 0) #[vR b3,vI 3] Z h0 (Q16a110 Z b4f h0 n0):=by
  refine own_met (own:="java/util/ArrayList") rfl (plainFor_of_name pn_6) ?_
  intro p e s m below meth c s₁ hx hby hml hZ hown hnm X0 e0 Br Bs
  have N0:=Fr.nil n0
  have tt:=own_tt hx hby own_ok16
  refine oV 0 #[oR b3,oI 3] [] ?_
  refine oX2 a0 [b3,b4a,b4c,b4d,b4e,b4f] [0,k4b,0,0,0,0] [fE16_9 0 (vR 1)] [] [] [1] 6 [oR 0,oI 3] [] [(1,(.object oOb),10,[vR 2,vR 3,vR 4,vR 5,.null,.null,.null,.null,.null,.null])] 6 [oR 0,oI 3] [vR 5] [] tt hZ hown X0 N0 e0 (oA (ow33 hw) trivial) trivial (oA PF11 trivial) (oA PV15 trivial) (Or.inl rfl) trivial rfl rfl (by decide +kernel) 4 (by decide +kernel) fun T5 h5 _ X5 N5 e5 K5 q5 M5=>?_
  have e5:=e5.trans (q5 rfl)
  refine oV 6 #[oR b3,oI 3] [vR b4f] ?_
  refine own_ret X5 (v:=some (vR b4f)) (oN Br) Bs (fun fs hr=>own_retA X5 hx Br rfl rfl (hb hby d16_6) hr) ?_ (by decide) (by decide)
  unfold Q16a110
  exact ⟨rfl,N5,e5⟩
def Q13a107 (Z:State)(b3f:Addr)(h0:Heap)(n0:Nat)(v:Option Value)(h:Heap)(L:List Loc):Prop:=v = some (vR b3f)∧Fr n0 L∧h = h0
set_option maxRecDepth 65536 in
set_option maxHeartbeats 40000000 in
theorem rm13a107 (l:Launch)(Z:State)(a0:Array Value)(hw:HW a0 Z)(ws:List Jvm.Cond)(b3 b4a:Addr)(k4b:ClassId)(b4c b4d b4e b4f:Addr)(h0:Heap)(n0:Nat)(Z0:n0≤h0.size)(PE9:Exa Z h0 b3 "java/util/ArrayList")(PF11:oF1 Z h0 b3 (vR b4a))(PF12:oF2 Z h0 b3 (vI 4))(PV15:Arv Z h0 b4a k4b (.object oOb) 10 [vR b4c,vR b4d,vR b4e,vR b4f,.null,.null,.null,.null,.null,.null] .null) :
    own_Met l mn15 jdk_38_method_20_code 2 (some (.object oOb)) ws (oRm 2 0 0 27) #[vR b3,vI 3] Z h0 (Q13a107 Z b4f h0 n0):=by
  refine own_met (own:="java/util/ArrayList") rfl (plainFor_of_name pn_6) ?_
  intro p e s m below meth c s₁ hx hby hml hZ hown hnm X0 e0 Br Bs
  have N0:=Fr.nil n0
  have tt:=own_tt hx hby own_ok13
  refine oV 0 #[oR b3,oI 3] [] ?_
  refine oX2 a0 [b3] [0] [fE13_48 0 (vI 4)] [] [] [] 1 [oR 0,oI 3] [] [] 5 [oR 0,oI 3] [vI 4,vI 3] [] tt hZ hown X0 N0 e0 (oA (ow58 hw) trivial) trivial (oA PF12 trivial) trivial (Or.inl rfl) trivial rfl rfl (by decide +kernel) 3 (by decide +kernel) fun T5 h5 _ X5 N5 e5 K5 q5 M5=>?_
  have e5:=e5.trans (q5 rfl)
  refine oV 5 #[oR b3,oI 3] [vI 4,vI 3] ?_
  refine own_cS X5 hx hZ hown e5 (ow107 hw) (ow108 hw) (ow109 hw) (ow110 hw) (y:=mn13) (argsL:=[vI 3,vI 4]) (rest:=[]) (W:=0) hml.symm (hb hby d13_5) (lenOf pd7 rfl) rfl (by decide) (rm14a108 l Z a0 hw []  h0 n0 Z0 ) fun _ T6 _ X6 hQ6=>?_
  obtain ⟨rfl,N6q,hh6⟩:=hQ6
  have N6:=Fr.app N5 N6q
  obtain ⟨_,X6,N6⟩:=own_hide X6 N6
  refine oV 8 #[oR b3,oI 3] [vI 3] ?_
  refine oG X6 tt 3 11 #[oR b3,oI 3] [vI 3,vR b3] rfl ?_
  refine own_cV X6 hx hZ hown hh6 (ow115 hw) (ow116 hw) (notFace_of_selects (args:=#[]) (mvT hZ (ow118 hw))) (ow118 hw) (ow117 hw) (ow13 hw) (ow119 hw) PE9 (y:=mn14) (z:=mn14) (argsL:=[vI 3]) (rest:=[]) (W:=0) hml.symm (hb hby d13_11) (lenOf pd5 rfl) rfl (by decide) (rm16a110 l Z a0 hw [] b3 b4a k4b b4c b4d b4e b4f h0 n0 Z0 PF11 PV15) fun _ T7 _ X7 hQ7=>?_
  obtain ⟨rfl,N7q,hh7⟩:=hQ7
  have N7:=Fr.app N6 N7q
  obtain ⟨_,X7,N7⟩:=own_hide X7 N7
  refine oV 14 #[oR b3,oI 3] [vR b4f] ?_
  refine own_ret X7 (v:=some (vR b4f)) (oN Br) Bs (fun fs hr=>own_retA X7 hx Br rfl rfl (hb hby d13_14) hr) ?_ (by decide) (by decide)
  unfold Q13a107
  exact ⟨rfl,N7,hh7⟩
def Q19a111 (Z:State)  (h0:Heap)(n0:Nat)(v:Option Value)(h:Heap)(L:List Loc):Prop:=v = some (.long (-65536:Int64))∧Fr n0 L∧h = h0
set_option maxRecDepth 65536 in
set_option maxHeartbeats 40000000 in
theorem rm19a111 (l:Launch)(Z:State)(a0:Array Value)(hw:HW a0 Z)(ws:List Jvm.Cond)(b6 b7 b8 b9:Addr)(k7:ClassId)(x7a x7b x7c x7d:Addr)(kc7 k8:ClassId)(x8a x8b x8c x8d:Addr)(kc8 k9:ClassId)(h0:Heap)(n0:Nat)(Z0:n0≤h0.size)(PF3:oF3 Z h0 b6 (vR b7))(PF4:oF4 Z h0 b6 (vR b8))(PF5:oF5 Z h0 b6 (vR b9))(PV24:Arv Z h0 b7 k7 (.array .int) 4 [vR x7a,vR x7b,vR x7c,vR x7d] .null)(PV26:Arv Z h0 x7a kc7 .int 4 own_ls6 (vI 0))(PV34:Arv Z h0 b8 k8 (.array .int) 4 [vR x8a,vR x8b,vR x8c,vR x8d] .null)(PV36:Arv Z h0 x8a kc8 .int 4 own_ls7 (vI 0))(PV44:Arv Z h0 b9 k9 .int 4 own_ls17 (vI 0)) :
    own_Met l mn20 prog_28_method_8_code 6 (some .long) ws (oRm 0 0 0 0) #[vR b6,vI 0] Z h0 (Q19a111 Z  h0 n0):=by
  refine own_met (own:=oLy) rfl (plainFor_of_name pn_0) ?_
  intro p e s m below meth c s₁ hx hby hml hZ hown hnm X0 e0 Br Bs
  have N0:=Fr.nil n0
  have tt:=own_tt hx hby own_ok19
  refine oV 0 #[oR b6,oI 0,oU,oU,oU,oU] [] ?_
  refine oX2 a0 [b6,b7,b8,b9,x7a,x7b,x7c,x7d,x8a,x8b,x8c,x8d] [0,k7,k8,k9,kc7,0,0,0,kc8,0,0,0] [fE19_32 0 (vR 3),fE19_29 0 (vR 2),fE19_26 0 (vR 1)] [(86,(-1))] [] [3,2,8,1,4] 12 [oR 0,oI 0,oU,oU,oU,oU] [] [(3,.int,4,[vI 48,vI 48,vI 48,vI 48]),(2,(.array .int),4,[vR 8,vR 9,vR 10,vR 11]),(8,.int,4,[vI 16,vI 16,vI 16,vI 16]),(1,(.array .int),4,[vR 4,vR 5,vR 6,vR 7]),(4,.int,4,[vI 48,vI 32,vI 16,vI 0])] 68 [oR 0,oI 0,oQ (-65536),oS,oI 0,oI 3] [.long (-65536)] [] tt hZ hown X0 N0 e0 (oA (ow96 hw) (oA (ow94 hw) (oA (ow92 hw) trivial))) (oA (ow131 hw) trivial) (oA PF5 (oA PF4 (oA PF3 trivial))) (oA PV44 (oA PV34 (oA PV36 (oA PV24 (oA PV26 trivial))))) (Or.inl rfl) trivial rfl rfl (by decide +kernel) 111 (by decide +kernel) fun T10 h10 _ X10 N10 e10 K10 q10 M10=>?_
  have e10:=e10.trans (q10 rfl)
  refine oV 68 #[oR b6,oI 0,oQ (-65536:Int64),oS,oI 0,oI 3] [(.long (-65536:Int64))] ?_
  refine own_ret X10 (v:=some (.long (-65536:Int64))) (oN Br) Bs (fun fs hr=>own_retL X10 hx Br (hb hby d19_68) hr) ?_ (by decide) (by decide)
  unfold Q19a111
  exact ⟨rfl,N10,e10⟩
def Q17a112 (Z:State)(j3:Int64)(h0:Heap)(n0:Nat)(v:Option Value)(h:Heap)(L:List Loc):Prop:=v = some (.long (kf (kf (kf (kf 0 j3 48 16) j3 32 16) j3 0 16) j3 16 16))∧Fr n0 L∧h = h0
set_option maxRecDepth 65536 in
set_option maxHeartbeats 40000000 in
theorem rm17a112 (l:Launch)(Z:State)(a0:Array Value)(hw:HW a0 Z)(ws:List Jvm.Cond)(b5:Addr)(j6:Int64)(b7 b8:Addr)(k7:ClassId)(x7a x7b x7c x7d:Addr)(kc7 k8:ClassId)(x8a x8b x8c x8d:Addr)(kc8:ClassId)(h0:Heap)(n0:Nat)(Z0:n0≤h0.size)(PF3:oF3 Z h0 b5 (vR b7))(PF4:oF4 Z h0 b5 (vR b8))(PV24:Arv Z h0 b7 k7 (.array .int) 4 [vR x7a,vR x7b,vR x7c,vR x7d] .null)(PV28:Arv Z h0 x7b kc7 .int 4 own_ls10 (vI 0))(PV34:Arv Z h0 b8 k8 (.array .int) 4 [vR x8a,vR x8b,vR x8c,vR x8d] .null)(PV38:Arv Z h0 x8b kc8 .int 4 own_ls7 (vI 0)) :
    own_Met l mn18 prog_28_method_6_code 9 (some .long) ws (oRm 0 0 0 0) #[vR b5,vI 1,(.long j6)] Z h0 (Q17a112 Z j6 h0 n0):=by
  refine own_met (own:=oLy) rfl (plainFor_of_name pn_0) ?_
  intro p e s m below meth c s₁ hx hby hml hZ hown hnm X0 e0 Br Bs
  have N0:=Fr.nil n0
  have tt:=own_tt hx hby own_ok17
  refine oV 0 #[oR b5,oI 1,oQ j6,oS,oU,oU,oU,oU,oU] [] ?_
  refine oX3 a0 [b5,b7,b8,x7a,x7b,x7c,x7d,x8a,x8b,x8c,x8d] [0,k7,k8,0,kc7,0,0,0,kc8,0,0] [fE17_29 0 (vR 2),fE17_26 0 (vR 1)] [(86,(-1))] [] [2,8,1,4] 11 [oR 0,oI 1,oQ j6,oS,oU,oU,oU,oU,oU] [] [(2,(.array .int),4,[vR 7,vR 8,vR 9,vR 10]),(8,.int,4,[vI 16,vI 16,vI 16,vI 16]),(1,(.array .int),4,[vR 3,vR 4,vR 5,vR 6]),(4,.int,4,[vI 48,vI 32,vI 0,vI 16])] 73 [oR 0,oI 1,oQ j6,oS,oQ (kf (kf (kf (kf 0 j6 48 16) j6 32 16) j6 0 16) j6 16 16),oS,oI 4,oQ (kg j6 16 16),oS] [.long (kf (kf (kf (kf 0 j6 48 16) j6 32 16) j6 0 16) j6 16 16)] [] tt hZ hown X0 N0 e0 (oA (ow94 hw) (oA (ow92 hw) trivial)) (oA (ow131 hw) trivial) (oA PF4 (oA PF3 trivial)) (oA PV34 (oA PV38 (oA PV24 (oA PV28 trivial)))) (Or.inl rfl) trivial rfl rfl (by decide +kernel) _ (oC 11 18 [oR 0,oI 1,oQ j6,oS,oQ 0,oS,oI 0,oU,oU] [] rfl (oC 10 34 [oR 0,oI 1,oQ j6,oS,oQ 0,oS,oI 0,oU,oU] [vI 64,.long (-1),.long (kh j6 48)] rfl (oC 10 48 [oR 0,oI 1,oQ j6,oS,oQ 0,oS,oI 0,oQ (kg j6 48 16),oS] [] rfl (oC 11 65 [oR 0,oI 1,oQ j6,oS,oQ (kf 0 j6 48 16),oS,oI 0,oQ (kg j6 48 16),oS] [] rfl (oC 9 18 [oR 0,oI 1,oQ j6,oS,oQ (kf 0 j6 48 16),oS,oI 1,oQ (kg j6 48 16),oS] [] rfl (oC 10 34 [oR 0,oI 1,oQ j6,oS,oQ (kf 0 j6 48 16),oS,oI 1,oQ (kg j6 48 16),oS] [vI 64,.long (-1),.long (kh j6 32)] rfl (oC 10 48 [oR 0,oI 1,oQ j6,oS,oQ (kf 0 j6 48 16),oS,oI 1,oQ (kg j6 32 16),oS] [] rfl (oC 11 65 [oR 0,oI 1,oQ j6,oS,oQ (kf (kf 0 j6 48 16) j6 32 16),oS,oI 1,oQ (kg j6 32 16),oS] [] rfl (oC 9 18 [oR 0,oI 1,oQ j6,oS,oQ (kf (kf 0 j6 48 16) j6 32 16),oS,oI 2,oQ (kg j6 32 16),oS] [] rfl (oC 10 34 [oR 0,oI 1,oQ j6,oS,oQ (kf (kf 0 j6 48 16) j6 32 16),oS,oI 2,oQ (kg j6 32 16),oS] [vI 64,.long (-1),.long (kh j6 0)] rfl (oC 10 48 [oR 0,oI 1,oQ j6,oS,oQ (kf (kf 0 j6 48 16) j6 32 16),oS,oI 2,oQ (kg j6 0 16),oS] [] rfl (oC 11 65 [oR 0,oI 1,oQ j6,oS,oQ (kf (kf (kf 0 j6 48 16) j6 32 16) j6 0 16),oS,oI 2,oQ (kg j6 0 16),oS] [] rfl (oC 9 18 [oR 0,oI 1,oQ j6,oS,oQ (kf (kf (kf 0 j6 48 16) j6 32 16) j6 0 16),oS,oI 3,oQ (kg j6 0 16),oS] [] rfl (oC 10 34 [oR 0,oI 1,oQ j6,oS,oQ (kf (kf (kf 0 j6 48 16) j6 32 16) j6 0 16),oS,oI 3,oQ (kg j6 0 16),oS] [vI 64,.long (-1),.long (kh j6 16)] rfl (oC 10 48 [oR 0,oI 1,oQ j6,oS,oQ (kf (kf (kf 0 j6 48 16) j6 32 16) j6 0 16),oS,oI 3,oQ (kg j6 16 16),oS] [] rfl (oC 11 65 [oR 0,oI 1,oQ j6,oS,oQ (kf (kf (kf (kf 0 j6 48 16) j6 32 16) j6 0 16) j6 16 16),oS,oI 3,oQ (kg j6 16 16),oS] [] (n2:=10) rfl rfl)))))))))))))))) fun T9 h9 _ X9 N9 e9 K9 q9 M9=>?_
  have e9:=e9.trans (q9 rfl)
  refine oV 73 #[oR b5,oI 1,oQ j6,oS,oQ (kf (kf (kf (kf 0 j6 48 16) j6 32 16) j6 0 16) j6 16 16),oS,oI 4,oQ (kg j6 16 16),oS] [(.long (kf (kf (kf (kf 0 j6 48 16) j6 32 16) j6 0 16) j6 16 16))] ?_
  refine own_ret X9 (v:=some (.long (kf (kf (kf (kf 0 j6 48 16) j6 32 16) j6 0 16) j6 16 16))) (oN Br) Bs (fun fs hr=>own_retL X9 hx Br (hb hby d17_73) hr) ?_ (by decide) (by decide)
  unfold Q17a112
  exact ⟨rfl,N9,e9⟩
def Q17a113 (Z:State)(j3:Int64)(h0:Heap)(n0:Nat)(v:Option Value)(h:Heap)(L:List Loc):Prop:=v = some (.long (kf (kf (kf (kf 0 j3 48 16) j3 16 16) j3 0 16) j3 32 16))∧Fr n0 L∧h = h0
set_option maxRecDepth 65536 in
set_option maxHeartbeats 40000000 in
theorem rm17a113 (l:Launch)(Z:State)(a0:Array Value)(hw:HW a0 Z)(ws:List Jvm.Cond)(b5:Addr)(j6:Int64)(b7 b8:Addr)(k7:ClassId)(x7a x7b x7c x7d:Addr)(kc7 k8:ClassId)(x8a x8b x8c x8d:Addr)(kc8:ClassId)(h0:Heap)(n0:Nat)(Z0:n0≤h0.size)(PF3:oF3 Z h0 b5 (vR b7))(PF4:oF4 Z h0 b5 (vR b8))(PV24:Arv Z h0 b7 k7 (.array .int) 4 [vR x7a,vR x7b,vR x7c,vR x7d] .null)(PV30:Arv Z h0 x7c kc7 .int 4 own_ls13 (vI 0))(PV34:Arv Z h0 b8 k8 (.array .int) 4 [vR x8a,vR x8b,vR x8c,vR x8d] .null)(PV40:Arv Z h0 x8c kc8 .int 4 own_ls7 (vI 0)) :
    own_Met l mn18 prog_28_method_6_code 9 (some .long) ws (oRm 0 0 0 0) #[vR b5,vI 2,(.long j6)] Z h0 (Q17a113 Z j6 h0 n0):=by
  refine own_met (own:=oLy) rfl (plainFor_of_name pn_0) ?_
  intro p e s m below meth c s₁ hx hby hml hZ hown hnm X0 e0 Br Bs
  have N0:=Fr.nil n0
  have tt:=own_tt hx hby own_ok17
  refine oV 0 #[oR b5,oI 2,oQ j6,oS,oU,oU,oU,oU,oU] [] ?_
  refine oX3 a0 [b5,b7,b8,x7a,x7b,x7c,x7d,x8a,x8b,x8c,x8d] [0,k7,k8,0,0,kc7,0,0,0,kc8,0] [fE17_29 0 (vR 2),fE17_26 0 (vR 1)] [(86,(-1))] [] [2,9,1,5] 11 [oR 0,oI 2,oQ j6,oS,oU,oU,oU,oU,oU] [] [(2,(.array .int),4,[vR 7,vR 8,vR 9,vR 10]),(9,.int,4,[vI 16,vI 16,vI 16,vI 16]),(1,(.array .int),4,[vR 3,vR 4,vR 5,vR 6]),(5,.int,4,[vI 48,vI 16,vI 0,vI 32])] 73 [oR 0,oI 2,oQ j6,oS,oQ (kf (kf (kf (kf 0 j6 48 16) j6 16 16) j6 0 16) j6 32 16),oS,oI 4,oQ (kg j6 32 16),oS] [.long (kf (kf (kf (kf 0 j6 48 16) j6 16 16) j6 0 16) j6 32 16)] [] tt hZ hown X0 N0 e0 (oA (ow94 hw) (oA (ow92 hw) trivial)) (oA (ow131 hw) trivial) (oA PF4 (oA PF3 trivial)) (oA PV34 (oA PV40 (oA PV24 (oA PV30 trivial)))) (Or.inl rfl) trivial rfl rfl (by decide +kernel) _ (oC 11 18 [oR 0,oI 2,oQ j6,oS,oQ 0,oS,oI 0,oU,oU] [] rfl (oC 10 34 [oR 0,oI 2,oQ j6,oS,oQ 0,oS,oI 0,oU,oU] [vI 64,.long (-1),.long (kh j6 48)] rfl (oC 10 48 [oR 0,oI 2,oQ j6,oS,oQ 0,oS,oI 0,oQ (kg j6 48 16),oS] [] rfl (oC 11 65 [oR 0,oI 2,oQ j6,oS,oQ (kf 0 j6 48 16),oS,oI 0,oQ (kg j6 48 16),oS] [] rfl (oC 9 18 [oR 0,oI 2,oQ j6,oS,oQ (kf 0 j6 48 16),oS,oI 1,oQ (kg j6 48 16),oS] [] rfl (oC 10 34 [oR 0,oI 2,oQ j6,oS,oQ (kf 0 j6 48 16),oS,oI 1,oQ (kg j6 48 16),oS] [vI 64,.long (-1),.long (kh j6 16)] rfl (oC 10 48 [oR 0,oI 2,oQ j6,oS,oQ (kf 0 j6 48 16),oS,oI 1,oQ (kg j6 16 16),oS] [] rfl (oC 11 65 [oR 0,oI 2,oQ j6,oS,oQ (kf (kf 0 j6 48 16) j6 16 16),oS,oI 1,oQ (kg j6 16 16),oS] [] rfl (oC 9 18 [oR 0,oI 2,oQ j6,oS,oQ (kf (kf 0 j6 48 16) j6 16 16),oS,oI 2,oQ (kg j6 16 16),oS] [] rfl (oC 10 34 [oR 0,oI 2,oQ j6,oS,oQ (kf (kf 0 j6 48 16) j6 16 16),oS,oI 2,oQ (kg j6 16 16),oS] [vI 64,.long (-1),.long (kh j6 0)] rfl (oC 10 48 [oR 0,oI 2,oQ j6,oS,oQ (kf (kf 0 j6 48 16) j6 16 16),oS,oI 2,oQ (kg j6 0 16),oS] [] rfl (oC 11 65 [oR 0,oI 2,oQ j6,oS,oQ (kf (kf (kf 0 j6 48 16) j6 16 16) j6 0 16),oS,oI 2,oQ (kg j6 0 16),oS] [] rfl (oC 9 18 [oR 0,oI 2,oQ j6,oS,oQ (kf (kf (kf 0 j6 48 16) j6 16 16) j6 0 16),oS,oI 3,oQ (kg j6 0 16),oS] [] rfl (oC 10 34 [oR 0,oI 2,oQ j6,oS,oQ (kf (kf (kf 0 j6 48 16) j6 16 16) j6 0 16),oS,oI 3,oQ (kg j6 0 16),oS] [vI 64,.long (-1),.long (kh j6 32)] rfl (oC 10 48 [oR 0,oI 2,oQ j6,oS,oQ (kf (kf (kf 0 j6 48 16) j6 16 16) j6 0 16),oS,oI 3,oQ (kg j6 32 16),oS] [] rfl (oC 11 65 [oR 0,oI 2,oQ j6,oS,oQ (kf (kf (kf (kf 0 j6 48 16) j6 16 16) j6 0 16) j6 32 16),oS,oI 3,oQ (kg j6 32 16),oS] [] (n2:=10) rfl rfl)))))))))))))))) fun T9 h9 _ X9 N9 e9 K9 q9 M9=>?_
  have e9:=e9.trans (q9 rfl)
  refine oV 73 #[oR b5,oI 2,oQ j6,oS,oQ (kf (kf (kf (kf 0 j6 48 16) j6 16 16) j6 0 16) j6 32 16),oS,oI 4,oQ (kg j6 32 16),oS] [(.long (kf (kf (kf (kf 0 j6 48 16) j6 16 16) j6 0 16) j6 32 16))] ?_
  refine own_ret X9 (v:=some (.long (kf (kf (kf (kf 0 j6 48 16) j6 16 16) j6 0 16) j6 32 16))) (oN Br) Bs (fun fs hr=>own_retL X9 hx Br (hb hby d17_73) hr) ?_ (by decide) (by decide)
  unfold Q17a113
  exact ⟨rfl,N9,e9⟩
def Q19a114 (Z:State)  (h0:Heap)(n0:Nat)(v:Option Value)(h:Heap)(L:List Loc):Prop:=v = some (.long (-4294901761:Int64))∧Fr n0 L∧h = h0
set_option maxRecDepth 65536 in
set_option maxHeartbeats 40000000 in
theorem rm19a114 (l:Launch)(Z:State)(a0:Array Value)(hw:HW a0 Z)(ws:List Jvm.Cond)(b6 b7 b8 b9:Addr)(k7:ClassId)(x7a x7b x7c x7d:Addr)(kc7 k8:ClassId)(x8a x8b x8c x8d:Addr)(kc8 k9:ClassId)(h0:Heap)(n0:Nat)(Z0:n0≤h0.size)(PF3:oF3 Z h0 b6 (vR b7))(PF4:oF4 Z h0 b6 (vR b8))(PF5:oF5 Z h0 b6 (vR b9))(PV24:Arv Z h0 b7 k7 (.array .int) 4 [vR x7a,vR x7b,vR x7c,vR x7d] .null)(PV28:Arv Z h0 x7b kc7 .int 4 own_ls10 (vI 0))(PV34:Arv Z h0 b8 k8 (.array .int) 4 [vR x8a,vR x8b,vR x8c,vR x8d] .null)(PV38:Arv Z h0 x8b kc8 .int 4 own_ls7 (vI 0))(PV44:Arv Z h0 b9 k9 .int 4 own_ls17 (vI 0)) :
    own_Met l mn20 prog_28_method_8_code 6 (some .long) ws (oRm 0 0 0 0) #[vR b6,vI 1] Z h0 (Q19a114 Z  h0 n0):=by
  refine own_met (own:=oLy) rfl (plainFor_of_name pn_0) ?_
  intro p e s m below meth c s₁ hx hby hml hZ hown hnm X0 e0 Br Bs
  have N0:=Fr.nil n0
  have tt:=own_tt hx hby own_ok19
  refine oV 0 #[oR b6,oI 1,oU,oU,oU,oU] [] ?_
  refine oX2 a0 [b6,b7,b8,b9,x7a,x7b,x7c,x7d,x8a,x8b,x8c,x8d] [0,k7,k8,k9,0,kc7,0,0,0,kc8,0,0] [fE19_32 0 (vR 3),fE19_29 0 (vR 2),fE19_26 0 (vR 1)] [(86,(-1))] [] [3,2,9,1,5] 12 [oR 0,oI 1,oU,oU,oU,oU] [] [(3,.int,4,[vI 48,vI 48,vI 48,vI 48]),(2,(.array .int),4,[vR 8,vR 9,vR 10,vR 11]),(9,.int,4,[vI 16,vI 16,vI 16,vI 16]),(1,(.array .int),4,[vR 4,vR 5,vR 6,vR 7]),(5,.int,4,[vI 48,vI 32,vI 0,vI 16])] 68 [oR 0,oI 1,oQ (-4294901761),oS,oI 0,oI 3] [.long (-4294901761)] [] tt hZ hown X0 N0 e0 (oA (ow96 hw) (oA (ow94 hw) (oA (ow92 hw) trivial))) (oA (ow131 hw) trivial) (oA PF5 (oA PF4 (oA PF3 trivial))) (oA PV44 (oA PV34 (oA PV38 (oA PV24 (oA PV28 trivial))))) (Or.inl rfl) trivial rfl rfl (by decide +kernel) 111 (by decide +kernel) fun T10 h10 _ X10 N10 e10 K10 q10 M10=>?_
  have e10:=e10.trans (q10 rfl)
  refine oV 68 #[oR b6,oI 1,oQ (-4294901761:Int64),oS,oI 0,oI 3] [(.long (-4294901761:Int64))] ?_
  refine own_ret X10 (v:=some (.long (-4294901761:Int64))) (oN Br) Bs (fun fs hr=>own_retL X10 hx Br (hb hby d19_68) hr) ?_ (by decide) (by decide)
  unfold Q19a114
  exact ⟨rfl,N10,e10⟩
def Q17a115 (Z:State)(j3:Int64)(h0:Heap)(n0:Nat)(v:Option Value)(h:Heap)(L:List Loc):Prop:=v = some (.long (kf (kf (kf (kf 0 j3 32 16) j3 16 16) j3 0 16) j3 48 16))∧Fr n0 L∧h = h0
set_option maxRecDepth 65536 in
set_option maxHeartbeats 40000000 in
theorem rm17a115 (l:Launch)(Z:State)(a0:Array Value)(hw:HW a0 Z)(ws:List Jvm.Cond)(b5:Addr)(j6:Int64)(b7 b8:Addr)(k7:ClassId)(x7a x7b x7c x7d:Addr)(kc7 k8:ClassId)(x8a x8b x8c x8d:Addr)(kc8:ClassId)(h0:Heap)(n0:Nat)(Z0:n0≤h0.size)(PF3:oF3 Z h0 b5 (vR b7))(PF4:oF4 Z h0 b5 (vR b8))(PV24:Arv Z h0 b7 k7 (.array .int) 4 [vR x7a,vR x7b,vR x7c,vR x7d] .null)(PV32:Arv Z h0 x7d kc7 .int 4 own_ls16 (vI 0))(PV34:Arv Z h0 b8 k8 (.array .int) 4 [vR x8a,vR x8b,vR x8c,vR x8d] .null)(PV42:Arv Z h0 x8d kc8 .int 4 own_ls7 (vI 0)) :
    own_Met l mn18 prog_28_method_6_code 9 (some .long) ws (oRm 0 0 0 0) #[vR b5,vI 3,(.long j6)] Z h0 (Q17a115 Z j6 h0 n0):=by
  refine own_met (own:=oLy) rfl (plainFor_of_name pn_0) ?_
  intro p e s m below meth c s₁ hx hby hml hZ hown hnm X0 e0 Br Bs
  have N0:=Fr.nil n0
  have tt:=own_tt hx hby own_ok17
  refine oV 0 #[oR b5,oI 3,oQ j6,oS,oU,oU,oU,oU,oU] [] ?_
  refine oX3 a0 [b5,b7,b8,x7a,x7b,x7c,x7d,x8a,x8b,x8c,x8d] [0,k7,k8,0,0,0,kc7,0,0,0,kc8] [fE17_29 0 (vR 2),fE17_26 0 (vR 1)] [(86,(-1))] [] [2,10,1,6] 11 [oR 0,oI 3,oQ j6,oS,oU,oU,oU,oU,oU] [] [(2,(.array .int),4,[vR 7,vR 8,vR 9,vR 10]),(10,.int,4,[vI 16,vI 16,vI 16,vI 16]),(1,(.array .int),4,[vR 3,vR 4,vR 5,vR 6]),(6,.int,4,[vI 32,vI 16,vI 0,vI 48])] 73 [oR 0,oI 3,oQ j6,oS,oQ (kf (kf (kf (kf 0 j6 32 16) j6 16 16) j6 0 16) j6 48 16),oS,oI 4,oQ (kg j6 48 16),oS] [.long (kf (kf (kf (kf 0 j6 32 16) j6 16 16) j6 0 16) j6 48 16)] [] tt hZ hown X0 N0 e0 (oA (ow94 hw) (oA (ow92 hw) trivial)) (oA (ow131 hw) trivial) (oA PF4 (oA PF3 trivial)) (oA PV34 (oA PV42 (oA PV24 (oA PV32 trivial)))) (Or.inl rfl) trivial rfl rfl (by decide +kernel) _ (oC 11 18 [oR 0,oI 3,oQ j6,oS,oQ 0,oS,oI 0,oU,oU] [] rfl (oC 10 34 [oR 0,oI 3,oQ j6,oS,oQ 0,oS,oI 0,oU,oU] [vI 64,.long (-1),.long (kh j6 32)] rfl (oC 10 48 [oR 0,oI 3,oQ j6,oS,oQ 0,oS,oI 0,oQ (kg j6 32 16),oS] [] rfl (oC 11 65 [oR 0,oI 3,oQ j6,oS,oQ (kf 0 j6 32 16),oS,oI 0,oQ (kg j6 32 16),oS] [] rfl (oC 9 18 [oR 0,oI 3,oQ j6,oS,oQ (kf 0 j6 32 16),oS,oI 1,oQ (kg j6 32 16),oS] [] rfl (oC 10 34 [oR 0,oI 3,oQ j6,oS,oQ (kf 0 j6 32 16),oS,oI 1,oQ (kg j6 32 16),oS] [vI 64,.long (-1),.long (kh j6 16)] rfl (oC 10 48 [oR 0,oI 3,oQ j6,oS,oQ (kf 0 j6 32 16),oS,oI 1,oQ (kg j6 16 16),oS] [] rfl (oC 11 65 [oR 0,oI 3,oQ j6,oS,oQ (kf (kf 0 j6 32 16) j6 16 16),oS,oI 1,oQ (kg j6 16 16),oS] [] rfl (oC 9 18 [oR 0,oI 3,oQ j6,oS,oQ (kf (kf 0 j6 32 16) j6 16 16),oS,oI 2,oQ (kg j6 16 16),oS] [] rfl (oC 10 34 [oR 0,oI 3,oQ j6,oS,oQ (kf (kf 0 j6 32 16) j6 16 16),oS,oI 2,oQ (kg j6 16 16),oS] [vI 64,.long (-1),.long (kh j6 0)] rfl (oC 10 48 [oR 0,oI 3,oQ j6,oS,oQ (kf (kf 0 j6 32 16) j6 16 16),oS,oI 2,oQ (kg j6 0 16),oS] [] rfl (oC 11 65 [oR 0,oI 3,oQ j6,oS,oQ (kf (kf (kf 0 j6 32 16) j6 16 16) j6 0 16),oS,oI 2,oQ (kg j6 0 16),oS] [] rfl (oC 9 18 [oR 0,oI 3,oQ j6,oS,oQ (kf (kf (kf 0 j6 32 16) j6 16 16) j6 0 16),oS,oI 3,oQ (kg j6 0 16),oS] [] rfl (oC 10 34 [oR 0,oI 3,oQ j6,oS,oQ (kf (kf (kf 0 j6 32 16) j6 16 16) j6 0 16),oS,oI 3,oQ (kg j6 0 16),oS] [vI 64,.long (-1),.long (kh j6 48)] rfl (oC 10 48 [oR 0,oI 3,oQ j6,oS,oQ (kf (kf (kf 0 j6 32 16) j6 16 16) j6 0 16),oS,oI 3,oQ (kg j6 48 16),oS] [] rfl (oC 11 65 [oR 0,oI 3,oQ j6,oS,oQ (kf (kf (kf (kf 0 j6 32 16) j6 16 16) j6 0 16) j6 48 16),oS,oI 3,oQ (kg j6 48 16),oS] [] (n2:=10) rfl rfl)))))))))))))))) fun T9 h9 _ X9 N9 e9 K9 q9 M9=>?_
  have e9:=e9.trans (q9 rfl)
  refine oV 73 #[oR b5,oI 3,oQ j6,oS,oQ (kf (kf (kf (kf 0 j6 32 16) j6 16 16) j6 0 16) j6 48 16),oS,oI 4,oQ (kg j6 48 16),oS] [(.long (kf (kf (kf (kf 0 j6 32 16) j6 16 16) j6 0 16) j6 48 16))] ?_
  refine own_ret X9 (v:=some (.long (kf (kf (kf (kf 0 j6 32 16) j6 16 16) j6 0 16) j6 48 16))) (oN Br) Bs (fun fs hr=>own_retL X9 hx Br (hb hby d17_73) hr) ?_ (by decide) (by decide)
  unfold Q17a115
  exact ⟨rfl,N9,e9⟩
def Q19a116 (Z:State)  (h0:Heap)(n0:Nat)(v:Option Value)(h:Heap)(L:List Loc):Prop:=v = some (.long (-281470681743361:Int64))∧Fr n0 L∧h = h0
set_option maxRecDepth 65536 in
set_option maxHeartbeats 40000000 in
theorem rm19a116 (l:Launch)(Z:State)(a0:Array Value)(hw:HW a0 Z)(ws:List Jvm.Cond)(b6 b7 b8 b9:Addr)(k7:ClassId)(x7a x7b x7c x7d:Addr)(kc7 k8:ClassId)(x8a x8b x8c x8d:Addr)(kc8 k9:ClassId)(h0:Heap)(n0:Nat)(Z0:n0≤h0.size)(PF3:oF3 Z h0 b6 (vR b7))(PF4:oF4 Z h0 b6 (vR b8))(PF5:oF5 Z h0 b6 (vR b9))(PV24:Arv Z h0 b7 k7 (.array .int) 4 [vR x7a,vR x7b,vR x7c,vR x7d] .null)(PV30:Arv Z h0 x7c kc7 .int 4 own_ls13 (vI 0))(PV34:Arv Z h0 b8 k8 (.array .int) 4 [vR x8a,vR x8b,vR x8c,vR x8d] .null)(PV40:Arv Z h0 x8c kc8 .int 4 own_ls7 (vI 0))(PV44:Arv Z h0 b9 k9 .int 4 own_ls17 (vI 0)) :
    own_Met l mn20 prog_28_method_8_code 6 (some .long) ws (oRm 0 0 0 0) #[vR b6,vI 2] Z h0 (Q19a116 Z  h0 n0):=by
  refine own_met (own:=oLy) rfl (plainFor_of_name pn_0) ?_
  intro p e s m below meth c s₁ hx hby hml hZ hown hnm X0 e0 Br Bs
  have N0:=Fr.nil n0
  have tt:=own_tt hx hby own_ok19
  refine oV 0 #[oR b6,oI 2,oU,oU,oU,oU] [] ?_
  refine oX2 a0 [b6,b7,b8,b9,x7a,x7b,x7c,x7d,x8a,x8b,x8c,x8d] [0,k7,k8,k9,0,0,kc7,0,0,0,kc8,0] [fE19_32 0 (vR 3),fE19_29 0 (vR 2),fE19_26 0 (vR 1)] [(86,(-1))] [] [3,2,10,1,6] 12 [oR 0,oI 2,oU,oU,oU,oU] [] [(3,.int,4,[vI 48,vI 48,vI 48,vI 48]),(2,(.array .int),4,[vR 8,vR 9,vR 10,vR 11]),(10,.int,4,[vI 16,vI 16,vI 16,vI 16]),(1,(.array .int),4,[vR 4,vR 5,vR 6,vR 7]),(6,.int,4,[vI 48,vI 16,vI 0,vI 32])] 68 [oR 0,oI 2,oQ (-281470681743361),oS,oI 0,oI 3] [.long (-281470681743361)] [] tt hZ hown X0 N0 e0 (oA (ow96 hw) (oA (ow94 hw) (oA (ow92 hw) trivial))) (oA (ow131 hw) trivial) (oA PF5 (oA PF4 (oA PF3 trivial))) (oA PV44 (oA PV34 (oA PV40 (oA PV24 (oA PV30 trivial))))) (Or.inl rfl) trivial rfl rfl (by decide +kernel) 111 (by decide +kernel) fun T10 h10 _ X10 N10 e10 K10 q10 M10=>?_
  have e10:=e10.trans (q10 rfl)
  refine oV 68 #[oR b6,oI 2,oQ (-281470681743361:Int64),oS,oI 0,oI 3] [(.long (-281470681743361:Int64))] ?_
  refine own_ret X10 (v:=some (.long (-281470681743361:Int64))) (oN Br) Bs (fun fs hr=>own_retL X10 hx Br (hb hby d19_68) hr) ?_ (by decide) (by decide)
  unfold Q19a116
  exact ⟨rfl,N10,e10⟩
def Q1a81 (Z:State)(b3:Addr)(h0:Heap)(n0:Nat)(v:Option Value)(h:Heap)(L:List Loc):Prop:=∃ (b4:Addr)(k4:ClassId)(x4a:Addr)(kc4:ClassId)(x4b x4c x4d b5:Addr)(k5:ClassId)(x5a:Addr)(kc5:ClassId)(x5b x5c x5d:Addr),v = none∧Fr n0 L∧Keep h0 h [b3]∧n0≤b4∧h0.size≤b4∧n0≤x4a∧h0.size≤x4a∧n0≤x4b∧h0.size≤x4b∧n0≤x4c∧h0.size≤x4c∧n0≤x4d∧h0.size≤x4d∧n0≤b5∧h0.size≤b5∧n0≤x5a∧h0.size≤x5a∧n0≤x5b∧h0.size≤x5b∧n0≤x5c∧h0.size≤x5c∧n0≤x5d∧h0.size≤x5d∧x4a≠b4∧x4b≠b4∧x4b≠x4a∧x4c≠b4∧x4c≠x4a∧x4c≠x4b∧x4d≠b4∧x4d≠x4a∧x4d≠x4b∧x4d≠x4c∧b5≠b4∧b5≠x4a∧b5≠x4b∧b5≠x4c∧b5≠x4d∧x5a≠b4∧x5a≠x4a∧x5a≠x4b∧x5a≠x4c∧x5a≠x4d∧x5a≠b5∧x5b≠b4∧x5b≠x4a∧x5b≠x4b∧x5b≠x4c∧x5b≠x4d∧x5b≠b5∧x5b≠x5a∧x5c≠b4∧x5c≠x4a∧x5c≠x4b∧x5c≠x4c∧x5c≠x4d∧x5c≠b5∧x5c≠x5a∧x5c≠x5b∧x5d≠b4∧x5d≠x4a∧x5d≠x4b∧x5d≠x4c∧x5d≠x4d∧x5d≠b5∧x5d≠x5a∧x5d≠x5b∧x5d≠x5c∧oF3 Z h b3 (vR b4)∧oF4 Z h b3 (vR b5)∧Arv Z h b4 k4 (.array .int) 4 [vR x4a,vR x4b,vR x4c,vR x4d] .null∧OvrA Z k4 .int "[I"∧Exa Z h b4 "[[I"∧Arv Z h x4a kc4 .int 4 own_ls6 (vI 0)∧Exa Z h x4a "[I"∧Arv Z h x4b kc4 .int 4 own_ls10 (vI 0)∧Exa Z h x4b "[I"∧Arv Z h x4c kc4 .int 4 own_ls13 (vI 0)∧Exa Z h x4c "[I"∧Arv Z h x4d kc4 .int 4 own_ls16 (vI 0)∧Exa Z h x4d "[I"∧Arv Z h b5 k5 (.array .int) 4 [vR x5a,vR x5b,vR x5c,vR x5d] .null∧OvrA Z k5 .int "[I"∧Exa Z h b5 "[[I"∧Arv Z h x5a kc5 .int 4 own_ls7 (vI 0)∧Exa Z h x5a "[I"∧Arv Z h x5b kc5 .int 4 own_ls7 (vI 0)∧Exa Z h x5b "[I"∧Arv Z h x5c kc5 .int 4 own_ls7 (vI 0)∧Exa Z h x5c "[I"∧Arv Z h x5d kc5 .int 4 own_ls7 (vI 0)∧Exa Z h x5d "[I"
set_option maxRecDepth 65536 in
set_option maxHeartbeats 40000000 in
theorem rm1a81 (l:Launch)(Z:State)(a0:Array Value)(hw:HW a0 Z)(ws:List Jvm.Cond)(b14 wd:Addr)(kd:ClassId)(h0:Heap)(n0:Nat)(Z0:n0≤h0.size)(PS0:Sta Z h0 "java/util/ArrayList" "DEFAULTCAPACITY_EMPTY_ELEMENTDATA" "[Ljava/lang/Object;" (vR wd))(PV1:Arv Z h0 wd kd (.object oOb) 0 [] .null)(PE2:Exa Z h0 b14 oLy)(PF3:oF3 Z h0 b14 .null)(PF4:oF4 Z h0 b14 .null)(PF5:oF5 Z h0 b14 .null)(PF6:oF6 Z h0 b14 .null)(n_b14:n0≤b14) :
    own_Met l mn17 prog_28_method_1_code 13 none ws (oRm 9 32 111 141) #[vR b14,vI 1,vI 4] Z h0 (Q1a81 Z b14 h0 n0):=by
  refine own_met (own:=oLy) rfl (plainFor_of_name pn_0) ?_
  intro p e s m below meth c s₁ hx hby hml hZ hown hnm X0 e0 Br Bs
  have N0:=Fr.nil n0
  have tt:=own_tt hx hby own_ok1
  refine oV 0 #[oR b14,oI 1,oI 4,oU,oU,oU,oU,oU,oU,oU,oU,oU,oU] [] ?_
  refine oG X0 tt 1 1 #[oR b14,oI 1,oI 4,oU,oU,oU,oU,oU,oU,oU,oU,oU,oU] [vR b14] rfl ?_
  obtain ⟨T15,X15,e15,st15⟩:=initO X0 hx hZ hown (ow7 hw) (ow8 hw) (ow9 hw) e0 (g:=(mkF m 1 #[oR b14,oI 1,oI 4,oU,oU,oU,oU,oU,oU,oU,oU,oU,oU] [vR b14])) rfl hml.symm rfl (hb hby d1_1) (by decide) (W:=0) (oZ rfl) (by decide)
  refine oH st15 X15 tt 3 7 #[oR b14,oI 1,oI 4,oU,oU,oU,oU,oU,oU,oU,oU,oU,oU] [vI 5] rfl ?_
  obtain ⟨T16,h16,k16,X16,e16,E16,A16,EA16,st16⟩:=newPE (aty:=.int) X15 hx hZ (ow10 hw) e15 (g:=(mkF m 7 #[oR b14,oI 1,oI 4,oU,oU,oU,oU,oU,oU,oU,oU,oU,oU] [vI 5])) rfl (hb hby d1_7) rfl (by decide) (cap:=5) (by decide) (by decide) (by decide) (by decide) (ad:="[I") (by decide +kernel)
  obtain ⟨b16,g_b16⟩:∃ z,z = h0.size:=⟨_,rfl⟩
  have sg_b16:h0.size≤b16:=Nat.le_of_eq g_b16.symm
  rw [← g_b16] at A16 EA16 st16
  have n_b16:=oT Z0 sg_b16
  have sz_b16:=oT (Keep.refl h0 [b14]).1 sg_b16
  have K16:Keep h0 h16 [b14]:=(Keep.refl h0 [b14]).ext E16
  have V_b16:Arv Z h16 b16 k16 .int 5 own_ls3 (vI 0):=(Arv.new A16 (by decide)).pad (pad_rep [] (vI 0) 5)
  refine oJ 9 #[oR b14,oI 1,oI 4,oU,oU,oU,oU,oU,oU,oU,oU,oU,oU] [vR b16] st16 ?_
  have l17:b14 < b16:=oW PE2.lt sz_b16
  refine oX2 a0 [b14,b16] [0,k16] [] [] [1] [1] 2 [oR 0,oI 1,oI 4,oU,oU,oU,oU,oU,oU,oU,oU,oU,oU] [vR 1] [(1,.int,5,[vI 0,vI 0,vI 0,vI 0,vI 0])] 55 [oR 0,oI 1,oI 4,oR 1,oI 4,oU,oU,oU,oU,oU,oU,oU,oU] [] [(1,[vI 0,vI 16,vI 32,vI 48,vI 64])] tt hZ hown X16 N0 e16 trivial trivial trivial (oA V_b16 trivial) (Or.inr (oA l17 trivial)) (oA n_b16 trivial) rfl rfl (by decide +kernel) 102 (by decide +kernel) fun T18 h18 _ X18 N18 e18 K18 q18 M18=>?_
  have Kq18:Keep h16 h18 [b16]:=K18
  have KK18:Keep h0 h18 [b14]:=Keep.trans K16 Kq18 (allS (Or.inr sz_b16) all0)
  obtain ⟨v18_0,-⟩:=M18
  have V18_0:Arv Z h18 b16 k16 .int 5 own_ls4 (vI 0):=v18_0
  refine oV 55 #[oR b14,oI 1,oI 4,oR b16,oI 4,oU,oU,oU,oU,oU,oU,oU,oU] [] ?_
  obtain ⟨T19,h19,X19,e19,E19,A19,D19,-,st19⟩:=newO X18 hx hZ hown (ow11 hw) (ow12 hw) (ow13 hw) e18 (g:=(mkF m 55 #[oR b14,oI 1,oI 4,oR b16,oI 4,oU,oU,oU,oU,oU,oU,oU,oU] [])) rfl (hb hby d1_55) (by decide) (by decide)
  obtain ⟨b19,g_b19⟩:∃ z,z = h18.size:=⟨_,rfl⟩
  have sg_b19:h18.size≤b19:=Nat.le_of_eq g_b19.symm
  rw [← g_b19] at A19 D19 st19
  have n_b19:=oT (oT (oT Z0 E16.1) Kq18.1) sg_b19
  have sz_b19:=oT KK18.1 sg_b19
  have u20:=(oW V_b16.lt Kq18.1)
  have m21:h0.size≤h18.size:=(oT (oT (Nat.le_refl _) E16.1) Kq18.1)
  have K19:Keep h0 h19 [b14]:=KK18.ext E19
  have F_modCount_b19:oF0 Z h19 b19 (vI 0):=D19 (Or.inl (ow31 hw)) (ty:=.int) (by decide)
  have F_elementData_b19:oF1 Z h19 b19 .null:=D19 (Or.inl (ow34 hw)) (ty:=(.array (.object oOb))) (by decide)
  have F_size_b19:oF2 Z h19 b19 (vI 0):=D19 (Or.inl (ow59 hw)) (ty:=.int) (by decide)
  refine oH st19 X19 tt 1 59 #[oR b14,oI 1,oI 4,oR b16,oI 4,oU,oU,oU,oU,oU,oU,oU,oU] [vR b19,vR b19] rfl ?_
  have G22:=((own_sta_keep (PS0.ext E16) Kq18 (own_wsV V_b16 own_ws0)).ext E19)
  refine own_cN X19 hx hZ hown e19 rfl (ow14 hw) (ow15 hw) (ow13 hw) (ow16 hw) (y:=mn2) (b:=b19) (argsL:=[]) (rest:=[vR b19]) (W:=1) hml.symm (hb hby d1_59) (lenOf pd2 rfl) rfl (by decide) (rm3a2 l Z a0 hw [] b19 wd h19 n0 (oT (oT (oT Z0 E16.1) Kq18.1) E19.1) G22 A19 F_modCount_b19 F_elementData_b19 F_size_b19 n_b19) fun _ T23 _ X23 hQ23=>?_
  obtain ⟨rfl,N23q,K23,g23_0,g23_1,g23_2⟩:=hQ23
  have N23:=Fr.app N18 N23q
  have eK23:T23.heap = T23.heap:=rfl
  have KK23:Keep h0 T23.heap [b14]:=Keep.trans K19 K23 (allS (Or.inr sz_b19) all0)
  obtain ⟨_,X23,N23⟩:=own_hide X23 N23
  refine oV 62 #[oR b14,oI 1,oI 4,oR b16,oI 4,oU,oU,oU,oU,oU,oU,oU,oU] [vR b19] ?_
  refine oG X23 tt 9 72 #[oR b14,oI 1,oI 4,oR b16,oR b19,oU,oU,oU,oU,oU,oU,oU,oU] [vI 3,vI 0,vI 3,vI 4] rfl ?_
  obtain ⟨T24,h24,k24,X24,e24,E24,A24,EA24,st24⟩:=newPE (aty:=.int) X23 hx hZ (ow10 hw) eK23 (g:=(mkF m 72 #[oR b14,oI 1,oI 4,oR b16,oR b19,oU,oU,oU,oU,oU,oU,oU,oU] [vI 3,vI 0,vI 3,vI 4])) rfl (hb hby d1_72) rfl (by decide) (cap:=3) (by decide) (by decide) (by decide) (by decide) (ad:="[I") (by decide +kernel)
  obtain ⟨b24,g_b24⟩:∃ z,z = T23.heap.size:=⟨_,rfl⟩
  have sg_b24:T23.heap.size≤b24:=Nat.le_of_eq g_b24.symm
  rw [← g_b24] at A24 EA24 st24
  have n_b24:=oT (oT (oT (oT (oT Z0 E16.1) Kq18.1) E19.1) K23.1) sg_b24
  have sz_b24:=oT KK23.1 sg_b24
  have u25:=(oW A19.lt K23.1)
  have m26:h18.size≤T23.heap.size:=(oT (oT (Nat.le_refl _) E19.1) K23.1)
  have K24:Keep h0 h24 [b14]:=KK23.ext E24
  have V_b24:Arv Z h24 b24 k24 .int 3 [vI 0,vI 0,vI 0] (vI 0):=(Arv.new A24 (by decide)).pad (pad_rep [] (vI 0) 3)
  refine oH st24 X24 tt 2 77 #[oR b14,oI 1,oI 4,oR b16,oR b19,oU,oU,oU,oU,oU,oU,oU,oU] [vR b19,vI 0,vR b24,vI 0,vI 3,vI 4] rfl ?_
  have G27:=((own_sta_keep G22 K23 (own_wsE A19 own_ws0)).ext E24)
  have G28:=(((((PV1.ext E16).keep Kq18 (ninS (oL PV1.lt sz_b16) nin0)).ext E19).keep K23 (ninS (oL PV1.lt sz_b19) nin0)).ext E24)
  refine own_cS X24 hx hZ hown e24 (ow35 hw) (ow36 hw) (ow3 hw) (ow37 hw) (y:=mn9) (argsL:=[vI 4,vI 3,vI 0,vR b24,vI 0,vR b19]) (rest:=[]) (W:=0) hml.symm (hb hby d1_77) (lenOf pd9 rfl) rfl (by decide) (rm6a82 l Z a0 hw [] b24 b19 wd kd k24 h24 n0 (oT (oT (oT (oT (oT Z0 E16.1) Kq18.1) E19.1) K23.1) E24.1) G27 G28 ((A19.keep K23).ext E24) (g23_0.ext E24) (g23_1.ext E24) (g23_2.ext E24) V_b24 EA24 (oL PV1.lt sz_b19) (oL PV1.lt sz_b24) (oL u25 sg_b24) (oM u25 sg_b24) n_b24 n_b19) fun _ T29 _ X29 hQ29=>?_
  obtain ⟨b29a,k29b,b29c,b29d,b29e,b29f,rfl,N29q,K29,n_b29a,sg_b29a,n_b29c,sg_b29c,n_b29d,sg_b29d,n_b29e,sg_b29e,n_b29f,sg_b29f,ne29_0,ne29_1,ne29_2,ne29_3,ne29_4,ne29_5,ne29_6,ne29_7,ne29_8,ne29_9,g29_0,g29_1,g29_2,g29_3,g29_4,g29_5,g29_6,g29_7,g29_8,g29_9,g29_10,g29_11,g29_12,g29_13⟩:=hQ29
  have N29:=Fr.app N23 N29q
  have sz_b29a:=oT K24.1 sg_b29a
  have sz_b29c:=oT K24.1 sg_b29c
  have sz_b29d:=oT K24.1 sg_b29d
  have sz_b29e:=oT K24.1 sg_b29e
  have sz_b29f:=oT K24.1 sg_b29f
  have u30:b24 < h24.size:=V_b24.lt
  have m31:T23.heap.size≤h24.size:=(oT (Nat.le_refl _) E24.1)
  have eK29:T29.heap = T29.heap:=rfl
  have KK29:Keep h0 T29.heap [b14]:=Keep.trans K24 K29 (allS (Or.inr sz_b24) (allS (Or.inr sz_b19) all0))
  obtain ⟨_,X29,N29⟩:=own_hide X29 N29
  refine oV 80 #[oR b14,oI 1,oI 4,oR b16,oR b19,oU,oU,oU,oU,oU,oU,oU,oU] [] ?_
  refine oG X29 tt 2 83 #[oR b14,oI 1,oI 4,oR b16,oR b19,oU,oU,oU,oU,oU,oU,oU,oU] [vR b19,vR b14] rfl ?_
  have Zs32:n0≤T29.heap.size:=(oT (oT (oT (oT (oT (oT Z0 E16.1) Kq18.1) E19.1) K23.1) E24.1) K29.1)
  refine own_cI X29 hx hZ hown eK29 (ow82 hw) (ow83 hw) (mvT hZ (ow84 hw)) (ow85 hw) (ow86 hw) (ow87 hw) (ow88 hw) (ow54 hw) (ow13 hw) (ow89 hw) (((A19.keep K23).ext E24).keep K29) (y:=mn11) (z:=mn10) (argsL:=[]) (rest:=[vR b14]) (W:=1) hml.symm (hb hby d1_83) (lenOf pd0 rfl) rfl (by decide) (rm12a94 l Z a0 hw [] b19 T29.heap n0 Zs32 g29_3) fun _ T33 _ X33 hQ33=>?_
  obtain ⟨rfl,N33q,hh33⟩:=hQ33
  have N33:=Fr.app N29 N33q
  obtain ⟨_,X33,N33⟩:=own_hide X33 N33
  refine oV 88 #[oR b14,oI 1,oI 4,oR b16,oR b19,oU,oU,oU,oU,oU,oU,oU,oU] [vI 4,vR b14] ?_
  refine oG X33 tt 1 89 #[oR b14,oI 1,oI 4,oR b16,oR b19,oU,oU,oU,oU,oU,oU,oU,oU] [vI 4,vI 4,vR b14] rfl ?_
  obtain ⟨T34,h34,k34,kc34,X34,e34,E34,A34,O34,EA34,I34,st34⟩:=gridM X33 hx hZ (C:="[I") (ad:="[[I") (ty:=.int) hown (by decide +kernel) (by decide +kernel) (ow90 hw) (ow91 hw) (ow10 hw) hh33 (g:=(mkF m 89 #[oR b14,oI 1,oI 4,oR b16,oR b19,oU,oU,oU,oU,oU,oU,oU,oU] [vI 4,vI 4,vR b14])) rfl (hb hby d1_89) rfl (by decide) (by decide) (N:=4) (by decide) rfl (cap:=4) (by decide) (by decide) (by decide) rfl rfl (by decide) (by decide)
  obtain ⟨b34,g_b34⟩:∃ z,z = T29.heap.size:=⟨_,rfl⟩
  obtain ⟨x34a,g_x34a⟩:∃ z,z = T29.heap.size + 1 + 0:=⟨_,rfl⟩
  obtain ⟨x34b,g_x34b⟩:∃ z,z = T29.heap.size + 1 + 1:=⟨_,rfl⟩
  obtain ⟨x34c,g_x34c⟩:∃ z,z = T29.heap.size + 1 + 2:=⟨_,rfl⟩
  obtain ⟨x34d,g_x34d⟩:∃ z,z = T29.heap.size + 1 + 3:=⟨_,rfl⟩
  have sg_b34:T29.heap.size≤b34:=by omega
  have n_b34:=oT Zs32 sg_b34
  have sz_b34:=oT KK29.1 sg_b34
  have sg_x34a:T29.heap.size≤x34a:=by omega
  have n_x34a:=oT Zs32 sg_x34a
  have sz_x34a:=oT KK29.1 sg_x34a
  have sg_x34b:T29.heap.size≤x34b:=by omega
  have n_x34b:=oT Zs32 sg_x34b
  have sz_x34b:=oT KK29.1 sg_x34b
  have sg_x34c:T29.heap.size≤x34c:=by omega
  have n_x34c:=oT Zs32 sg_x34c
  have sz_x34c:=oT KK29.1 sg_x34c
  have sg_x34d:T29.heap.size≤x34d:=by omega
  have n_x34d:=oT Zs32 sg_x34d
  have sz_x34d:=oT KK29.1 sg_x34d
  have u35:b29a < T29.heap.size:=g29_4.lt
  have u36:b29c < T29.heap.size:=g29_6.lt
  have u37:b29d < T29.heap.size:=g29_8.lt
  have u38:b29e < T29.heap.size:=g29_10.lt
  have u39:b29f < T29.heap.size:=g29_12.lt
  have m40:h24.size≤T29.heap.size:=(oT (Nat.le_refl _) K29.1)
  have nn_x34a_b34:x34a≠b34:=by omega
  have nn_x34b_b34:x34b≠b34:=by omega
  have nn_x34b_x34a:x34b≠x34a:=by omega
  have nn_x34c_b34:x34c≠b34:=by omega
  have nn_x34c_x34a:x34c≠x34a:=by omega
  have nn_x34c_x34b:x34c≠x34b:=by omega
  have nn_x34d_b34:x34d≠b34:=by omega
  have nn_x34d_x34a:x34d≠x34a:=by omega
  have nn_x34d_x34b:x34d≠x34b:=by omega
  have nn_x34d_x34c:x34d≠x34c:=by omega
  have K34:Keep h0 h34 [b14]:=KK29.ext E34
  have V_b34:Arv Z h34 b34 k34 (.array .int) 4 [vR x34a,vR x34b,vR x34c,vR x34d] .null:=by rw [g_b34,g_x34a,g_x34b,g_x34c,g_x34d]; exact A34
  have EE_b34:Exa Z h34 b34 "[[I":=by rw [g_b34]; exact EA34
  have V_x34a:Arv Z h34 x34a kc34 .int 4 own_ls1 (vI 0):=by rw [g_x34a]; exact (Arv.new (I34 0 _ rfl).1 (by decide)).pad (pad_rep [] (vI 0) 4)
  have EE_x34a:Exa Z h34 x34a "[I":=by rw [g_x34a]; exact (I34 0 _ rfl).2
  have V_x34b:Arv Z h34 x34b kc34 .int 4 own_ls1 (vI 0):=by rw [g_x34b]; exact (Arv.new (I34 1 _ rfl).1 (by decide)).pad (pad_rep [] (vI 0) 4)
  have EE_x34b:Exa Z h34 x34b "[I":=by rw [g_x34b]; exact (I34 1 _ rfl).2
  have V_x34c:Arv Z h34 x34c kc34 .int 4 own_ls1 (vI 0):=by rw [g_x34c]; exact (Arv.new (I34 2 _ rfl).1 (by decide)).pad (pad_rep [] (vI 0) 4)
  have EE_x34c:Exa Z h34 x34c "[I":=by rw [g_x34c]; exact (I34 2 _ rfl).2
  have V_x34d:Arv Z h34 x34d kc34 .int 4 own_ls1 (vI 0):=by rw [g_x34d]; exact (Arv.new (I34 3 _ rfl).1 (by decide)).pad (pad_rep [] (vI 0) 4)
  have EE_x34d:Exa Z h34 x34d "[I":=by rw [g_x34d]; exact (I34 3 _ rfl).2
  rw [← g_b34] at st34
  refine oJ 93 #[oR b14,oI 1,oI 4,oR b16,oR b19,oU,oU,oU,oU,oU,oU,oU,oU] [vR b34,vR b14] st34 ?_
  have K41:Keep _ h34 [b16,b19,b24]:=(Keep.trans ((Keep.trans ((Keep.trans ((Keep.refl _ _).ext E16) Kq18 (allS oI0 all0)).ext E19) K23 (allS oI1 all0)).ext E24) K29 (allS oI2 (allS oI1 all0))).ext E34
  have G42:=(PF3.keep K41 (ninS (oL PE2.lt sz_b16) (ninS (oL PE2.lt sz_b19) (ninS (oL PE2.lt sz_b24) nin0))))
  obtain ⟨T43,h43,X43,e43,W43,st43⟩:=putF X34 hx hZ hown (host:="") (Or.inl (ow92 hw)) Via.refl e34 G42 (PE2.keep K41) (Or.inr ⟨(ow93 hw),rfl,hnm⟩) (ow2 hw) (ty:=(.array (.array .int))) (by decide) rfl rfl (g:=(mkF m 93 #[oR b14,oI 1,oI 4,oR b16,oR b19,oU,oU,oU,oU,oU,oU,oU,oU] [vR b34,vR b14])) rfl rfl (hb hby d1_93)
  have Fw43:=Fld.same W43 G42
  have K43:Keep h0 h43 [b14]:=K34.wr W43 oI0
  have N43:=Fr.snoc X43 N33 n_b14
  refine oH st43 X43 tt 2 99 #[oR b14,oI 1,oI 4,oR b16,oR b19,oU,oU,oU,oU,oU,oU,oU,oU] [vR b19,vR b14] rfl ?_
  have G44:=((g29_3.ext E34).other W43 (Or.inl (oM PE2.lt sz_b19)))
  have G45:=(((((A19.keep K23).ext E24).keep K29).ext E34).wr W43)
  refine own_cI X43 hx hZ hown e43 (ow82 hw) (ow83 hw) (mvT hZ (ow84 hw)) (ow85 hw) (ow86 hw) (ow87 hw) (ow88 hw) (ow54 hw) (ow13 hw) (ow89 hw) G45 (y:=mn11) (z:=mn10) (argsL:=[]) (rest:=[vR b14]) (W:=1) hml.symm (hb hby d1_99) (lenOf pd0 rfl) rfl (by decide) (rm12a94 l Z a0 hw [] b19 h43 n0 (oT (oT Zs32 E34.1) (Keep.of_wr W43).1) G44) fun _ T46 _ X46 hQ46=>?_
  obtain ⟨rfl,N46q,hh46⟩:=hQ46
  have N46:=Fr.app N43 N46q
  obtain ⟨_,X46,N46⟩:=own_hide X46 N46
  refine oV 104 #[oR b14,oI 1,oI 4,oR b16,oR b19,oU,oU,oU,oU,oU,oU,oU,oU] [vI 4,vR b14] ?_
  refine oG X46 tt 1 105 #[oR b14,oI 1,oI 4,oR b16,oR b19,oU,oU,oU,oU,oU,oU,oU,oU] [vI 4,vI 4,vR b14] rfl ?_
  obtain ⟨T47,h47,k47,kc47,X47,e47,E47,A47,O47,EA47,I47,st47⟩:=gridM X46 hx hZ (C:="[I") (ad:="[[I") (ty:=.int) hown (by decide +kernel) (by decide +kernel) (ow90 hw) (ow91 hw) (ow10 hw) hh46 (g:=(mkF m 105 #[oR b14,oI 1,oI 4,oR b16,oR b19,oU,oU,oU,oU,oU,oU,oU,oU] [vI 4,vI 4,vR b14])) rfl (hb hby d1_105) rfl (by decide) (by decide) (N:=4) (by decide) rfl (cap:=4) (by decide) (by decide) (by decide) rfl rfl (by decide) (by decide)
  obtain ⟨b47,g_b47⟩:∃ z,z = h43.size:=⟨_,rfl⟩
  obtain ⟨x47a,g_x47a⟩:∃ z,z = h43.size + 1 + 0:=⟨_,rfl⟩
  obtain ⟨x47b,g_x47b⟩:∃ z,z = h43.size + 1 + 1:=⟨_,rfl⟩
  obtain ⟨x47c,g_x47c⟩:∃ z,z = h43.size + 1 + 2:=⟨_,rfl⟩
  obtain ⟨x47d,g_x47d⟩:∃ z,z = h43.size + 1 + 3:=⟨_,rfl⟩
  have sg_b47:h43.size≤b47:=by omega
  have n_b47:=oT (oT (oT Zs32 E34.1) (Keep.of_wr W43).1) sg_b47
  have sz_b47:=oT K43.1 sg_b47
  have sg_x47a:h43.size≤x47a:=by omega
  have n_x47a:=oT (oT (oT Zs32 E34.1) (Keep.of_wr W43).1) sg_x47a
  have sz_x47a:=oT K43.1 sg_x47a
  have sg_x47b:h43.size≤x47b:=by omega
  have n_x47b:=oT (oT (oT Zs32 E34.1) (Keep.of_wr W43).1) sg_x47b
  have sz_x47b:=oT K43.1 sg_x47b
  have sg_x47c:h43.size≤x47c:=by omega
  have n_x47c:=oT (oT (oT Zs32 E34.1) (Keep.of_wr W43).1) sg_x47c
  have sz_x47c:=oT K43.1 sg_x47c
  have sg_x47d:h43.size≤x47d:=by omega
  have n_x47d:=oT (oT (oT Zs32 E34.1) (Keep.of_wr W43).1) sg_x47d
  have sz_x47d:=oT K43.1 sg_x47d
  have u48:=(oW V_b34.lt (Keep.of_wr W43).1)
  have u49:=(oW V_x34a.lt (Keep.of_wr W43).1)
  have u50:=(oW V_x34b.lt (Keep.of_wr W43).1)
  have u51:=(oW V_x34c.lt (Keep.of_wr W43).1)
  have u52:=(oW V_x34d.lt (Keep.of_wr W43).1)
  have m53:T29.heap.size≤h43.size:=(oT (oT (Nat.le_refl _) E34.1) (Keep.of_wr W43).1)
  have nn_x47a_b47:x47a≠b47:=by omega
  have nn_x47b_b47:x47b≠b47:=by omega
  have nn_x47b_x47a:x47b≠x47a:=by omega
  have nn_x47c_b47:x47c≠b47:=by omega
  have nn_x47c_x47a:x47c≠x47a:=by omega
  have nn_x47c_x47b:x47c≠x47b:=by omega
  have nn_x47d_b47:x47d≠b47:=by omega
  have nn_x47d_x47a:x47d≠x47a:=by omega
  have nn_x47d_x47b:x47d≠x47b:=by omega
  have nn_x47d_x47c:x47d≠x47c:=by omega
  have K47:Keep h0 h47 [b14]:=K43.ext E47
  have V_b47:Arv Z h47 b47 k47 (.array .int) 4 [vR x47a,vR x47b,vR x47c,vR x47d] .null:=by rw [g_b47,g_x47a,g_x47b,g_x47c,g_x47d]; exact A47
  have EE_b47:Exa Z h47 b47 "[[I":=by rw [g_b47]; exact EA47
  have V_x47a:Arv Z h47 x47a kc47 .int 4 own_ls1 (vI 0):=by rw [g_x47a]; exact (Arv.new (I47 0 _ rfl).1 (by decide)).pad (pad_rep [] (vI 0) 4)
  have EE_x47a:Exa Z h47 x47a "[I":=by rw [g_x47a]; exact (I47 0 _ rfl).2
  have V_x47b:Arv Z h47 x47b kc47 .int 4 own_ls1 (vI 0):=by rw [g_x47b]; exact (Arv.new (I47 1 _ rfl).1 (by decide)).pad (pad_rep [] (vI 0) 4)
  have EE_x47b:Exa Z h47 x47b "[I":=by rw [g_x47b]; exact (I47 1 _ rfl).2
  have V_x47c:Arv Z h47 x47c kc47 .int 4 own_ls1 (vI 0):=by rw [g_x47c]; exact (Arv.new (I47 2 _ rfl).1 (by decide)).pad (pad_rep [] (vI 0) 4)
  have EE_x47c:Exa Z h47 x47c "[I":=by rw [g_x47c]; exact (I47 2 _ rfl).2
  have V_x47d:Arv Z h47 x47d kc47 .int 4 own_ls1 (vI 0):=by rw [g_x47d]; exact (Arv.new (I47 3 _ rfl).1 (by decide)).pad (pad_rep [] (vI 0) 4)
  have EE_x47d:Exa Z h47 x47d "[I":=by rw [g_x47d]; exact (I47 3 _ rfl).2
  rw [← g_b47] at st47
  refine oJ 109 #[oR b14,oI 1,oI 4,oR b16,oR b19,oU,oU,oU,oU,oU,oU,oU,oU] [vR b47,vR b14] st47 ?_
  have G54:=(((PF4.keep K41 (ninS (oL PE2.lt sz_b16) (ninS (oL PE2.lt sz_b19) (ninS (oL PE2.lt sz_b24) nin0)))).other W43 (Or.inr (sn_95_93 hw))).ext E47)
  obtain ⟨T55,h55,X55,e55,W55,st55⟩:=putF X47 hx hZ hown (host:="") (Or.inl (ow94 hw)) Via.refl e47 G54 (((PE2.keep K41).wr W43).ext E47) (Or.inr ⟨(ow95 hw),rfl,hnm⟩) (ow2 hw) (ty:=(.array (.array .int))) (by decide) rfl rfl (g:=(mkF m 109 #[oR b14,oI 1,oI 4,oR b16,oR b19,oU,oU,oU,oU,oU,oU,oU,oU] [vR b47,vR b14])) rfl rfl (hb hby d1_109)
  have Fw55:=Fld.same W55 G54
  have K55:Keep h0 h55 [b14]:=K47.wr W55 oI0
  have N55:=Fr.snoc X55 N46 n_b14
  refine oH st55 X55 tt 2 115 #[oR b14,oI 1,oI 4,oR b16,oR b19,oU,oU,oU,oU,oU,oU,oU,oU] [vR b19,vR b14] rfl ?_
  have G56:=((G44.ext E47).other W55 (Or.inl (oM PE2.lt sz_b19)))
  have Zs57:n0≤h55.size:=(oT (oT (oT (oT Zs32 E34.1) (Keep.of_wr W43).1) E47.1) (Keep.of_wr W55).1)
  refine own_cI X55 hx hZ hown e55 (ow82 hw) (ow83 hw) (mvT hZ (ow84 hw)) (ow85 hw) (ow86 hw) (ow87 hw) (ow88 hw) (ow54 hw) (ow13 hw) (ow89 hw) ((G45.ext E47).wr W55) (y:=mn11) (z:=mn10) (argsL:=[]) (rest:=[vR b14]) (W:=1) hml.symm (hb hby d1_115) (lenOf pd0 rfl) rfl (by decide) (rm12a94 l Z a0 hw [] b19 h55 n0 Zs57 G56) fun _ T58 _ X58 hQ58=>?_
  obtain ⟨rfl,N58q,hh58⟩:=hQ58
  have N58:=Fr.app N55 N58q
  obtain ⟨_,X58,N58⟩:=own_hide X58 N58
  refine oV 120 #[oR b14,oI 1,oI 4,oR b16,oR b19,oU,oU,oU,oU,oU,oU,oU,oU] [vI 4,vR b14] ?_
  obtain ⟨T59,h59,k59,X59,e59,E59,A59,EA59,st59⟩:=newPE (aty:=.int) X58 hx hZ (ow10 hw) hh58 (g:=(mkF m 120 #[oR b14,oI 1,oI 4,oR b16,oR b19,oU,oU,oU,oU,oU,oU,oU,oU] [vI 4,vR b14])) rfl (hb hby d1_120) rfl (by decide) (cap:=4) (by decide) (by decide) (by decide) (by decide) (ad:="[I") (by decide +kernel)
  obtain ⟨b59,g_b59⟩:∃ z,z = h55.size:=⟨_,rfl⟩
  have sg_b59:h55.size≤b59:=Nat.le_of_eq g_b59.symm
  rw [← g_b59] at A59 EA59 st59
  have n_b59:=oT Zs57 sg_b59
  have sz_b59:=oT K55.1 sg_b59
  have u60:=(oW V_b47.lt (Keep.of_wr W55).1)
  have u61:=(oW V_x47a.lt (Keep.of_wr W55).1)
  have u62:=(oW V_x47b.lt (Keep.of_wr W55).1)
  have u63:=(oW V_x47c.lt (Keep.of_wr W55).1)
  have u64:=(oW V_x47d.lt (Keep.of_wr W55).1)
  have m65:h43.size≤h55.size:=(oT (oT (Nat.le_refl _) E47.1) (Keep.of_wr W55).1)
  have K59:Keep h0 h59 [b14]:=K55.ext E59
  have V_b59:Arv Z h59 b59 k59 .int 4 own_ls1 (vI 0):=(Arv.new A59 (by decide)).pad (pad_rep [] (vI 0) 4)
  refine oJ 122 #[oR b14,oI 1,oI 4,oR b16,oR b19,oU,oU,oU,oU,oU,oU,oU,oU] [vR b59,vR b14] st59 ?_
  have G66:=(((((PE2.keep K41).wr W43).ext E47).wr W55).ext E59)
  have G67:=(((((PF5.keep K41 (ninS (oL PE2.lt sz_b16) (ninS (oL PE2.lt sz_b19) (ninS (oL PE2.lt sz_b24) nin0)))).other W43 (Or.inr (sn_97_93 hw))).ext E47).other W55 (Or.inr (sn_97_95 hw))).ext E59)
  obtain ⟨T68,h68,X68,e68,W68,st68⟩:=putF X59 hx hZ hown (host:="") (Or.inl (ow96 hw)) Via.refl e59 G67 G66 (Or.inr ⟨(ow97 hw),rfl,hnm⟩) (ow2 hw) (ty:=(.array .int)) (by decide) rfl rfl (g:=(mkF m 122 #[oR b14,oI 1,oI 4,oR b16,oR b19,oU,oU,oU,oU,oU,oU,oU,oU] [vR b59,vR b14])) rfl rfl (hb hby d1_122)
  have Fw68:=Fld.same W68 G67
  have K68:Keep h0 h68 [b14]:=K59.wr W68 oI0
  have N68:=Fr.snoc X68 N58 n_b14
  refine oH st68 X68 tt 4 132 #[oR b14,oI 1,oI 4,oR b16,oR b19,oI 0,oU,oU,oU,oU,oU,oU,oU] [vR b19,vI 0] rfl ?_
  have G69:=((G56.ext E59).other W68 (Or.inl (oM PE2.lt sz_b19)))
  refine own_cI X68 hx hZ hown e68 (ow82 hw) (ow83 hw) (mvT hZ (ow84 hw)) (ow85 hw) (ow86 hw) (ow87 hw) (ow88 hw) (ow54 hw) (ow13 hw) (ow89 hw) ((((G45.ext E47).wr W55).ext E59).wr W68) (y:=mn11) (z:=mn10) (argsL:=[]) (rest:=[vI 0]) (W:=1) hml.symm (hb hby d1_132) (lenOf pd0 rfl) rfl (by decide) (rm12a94 l Z a0 hw [] b19 h68 n0 (oT (oT Zs57 E59.1) (Keep.of_wr W68).1) G69) fun _ T70 _ X70 hQ70=>?_
  obtain ⟨rfl,N70q,hh70⟩:=hQ70
  have N70:=Fr.app N68 N70q
  obtain ⟨_,X70,N70⟩:=own_hide X70 N70
  refine oV 137 #[oR b14,oI 1,oI 4,oR b16,oR b19,oI 0,oU,oU,oU,oU,oU,oU,oU] [vI 4,vI 0] ?_
  refine oG X70 tt 2 141 #[oR b14,oI 1,oI 4,oR b16,oR b19,oI 0,oU,oU,oU,oU,oU,oU,oU] [vI 4] rfl ?_
  obtain ⟨T71,h71,k71,X71,e71,E71,A71,EA71,st71⟩:=newPE (aty:=.boolean) X70 hx hZ (ow98 hw) hh70 (g:=(mkF m 141 #[oR b14,oI 1,oI 4,oR b16,oR b19,oI 0,oU,oU,oU,oU,oU,oU,oU] [vI 4])) rfl (hb hby d1_141) rfl (by decide) (cap:=4) (by decide) (by decide) (by decide) (by decide) (ad:="[Z") (by decide +kernel)
  obtain ⟨b71,g_b71⟩:∃ z,z = h68.size:=⟨_,rfl⟩
  have sg_b71:h68.size≤b71:=Nat.le_of_eq g_b71.symm
  rw [← g_b71] at A71 EA71 st71
  have n_b71:=oT (oT (oT Zs57 E59.1) (Keep.of_wr W68).1) sg_b71
  have sz_b71:=oT K68.1 sg_b71
  have u72:=(oW V_b59.lt (Keep.of_wr W68).1)
  have m73:h55.size≤h68.size:=(oT (oT (Nat.le_refl _) E59.1) (Keep.of_wr W68).1)
  have K71:Keep h0 h71 [b14]:=K68.ext E71
  have V_b71:Arv Z h71 b71 k71 .boolean 4 own_ls1 (vI 0):=(Arv.new A71 (by decide)).pad (pad_rep [] (vI 0) 4)
  refine oH st71 X71 tt 3 149 #[oR b14,oI 1,oI 4,oR b16,oR b19,oI 0,oR b71,oU,oU,oU,oU,oU,oU] [vI 0,vR b19] rfl ?_
  have G74:=(((((G45.ext E47).wr W55).ext E59).wr W68).ext E71)
  have K75:Keep _ h71 [b14]:=((((((Keep.refl _ _).wr W43 oI0).ext E47).wr W55 oI0).ext E59).wr W68 oI0).ext E71
  have G76:=((g29_2.ext E34).keep K75 (ninS (oM PE2.lt sz_b19) nin0))
  have G77:=((g29_4.ext E34).keep K75 (ninS (oM PE2.lt sz_b29a) nin0))
  refine own_cI X71 hx hZ hown e71 (ow99 hw) (ow100 hw) (mvT hZ (ow101 hw)) (ow102 hw) (ow103 hw) (ow104 hw) (ow105 hw) (ow54 hw) (ow13 hw) (ow106 hw) G74 (y:=mn16) (z:=mn15) (argsL:=[vI 0]) (rest:=[]) (W:=0) hml.symm (hb hby d1_149) (lenOf pd5 rfl) rfl (by decide) (rm13a95 l Z a0 hw [] b19 b29a k29b b29c b29d b29e b29f h71 n0 (oT (oT (oT Zs57 E59.1) (Keep.of_wr W68).1) E71.1) G74 G76 (G69.ext E71) G77) fun _ T78 _ X78 hQ78=>?_
  obtain ⟨rfl,N78q,hh78⟩:=hQ78
  have N78:=Fr.app N70 N78q
  obtain ⟨_,X78,N78⟩:=own_hide X78 N78
  refine oV 154 #[oR b14,oI 1,oI 4,oR b16,oR b19,oI 0,oR b71,oU,oU,oU,oU,oU,oU] [vR b29c] ?_
  have G79:=(((((((g29_7.ext E34).wr W43).ext E47).wr W55).ext E59).wr W68).ext E71)
  obtain ⟨T80,X80,e80,st80⟩:=castY X78 hx hZ hown (ow45 hw) hh78 (Ins.self G79) (g:=(mkF m 154 #[oR b14,oI 1,oI 4,oR b16,oR b19,oI 0,oR b71,oU,oU,oU,oU,oU,oU] [vR b29c])) rfl rfl (hb hby d1_154)
  refine oJ 157 #[oR b14,oI 1,oI 4,oR b16,oR b19,oI 0,oR b71,oU,oU,oU,oU,oU,oU] [vR b29c] st80 ?_
  have G81:=((g29_6.ext E34).keep K75 (ninS (oM PE2.lt sz_b29c) nin0))
  have l82:b16 < b19:=oW u20 sg_b19
  have l83:b19 < b29c:=oW u25 (oT m31 sg_b29c)
  have c84:=oT m53 m65
  have c85:=oT c84 m73
  have l86:b29c < b71:=oW u36 (oT c85 sg_b71)
  refine oX2 a0 [b14,b16,b19,b29c,b71] [0,0,0,k24,k71] [] [] [4] [3,4] 5 [oR 0,oI 1,oI 4,oR 1,oR 2,oI 0,oR 4,oU,oU,oU,oU,oU,oU] [vR 3] [(3,.int,3,[vI 0,vI 1,vI 2]),(4,.boolean,4,[vI 0,vI 0,vI 0,vI 0])] 197 [oR 0,oI 1,oI 4,oR 1,oR 2,oI 0,oR 4,oI 0,oI 3,oI 3,oI 2,oU,oU] [vI 2] [(4,[vI 1,vI 1,vI 1,vI 0])] tt hZ hown X80 N78 e80 trivial trivial trivial (oA G81 (oA V_b71 trivial)) (Or.inr (oA l17 (oA l82 (oA l83 (oA l86 trivial))))) (oA n_b71 trivial) rfl rfl (by decide +kernel) 51 (by decide +kernel) fun T87 h87 _ X87 N87 e87 K87 q87 M87=>?_
  have Kq87:Keep h71 h87 [b71]:=K87
  have KK87:Keep h0 h87 [b14]:=Keep.trans K71 Kq87 (allS (Or.inr sz_b71) all0)
  obtain ⟨-,v87_1,-⟩:=M87
  have V87_1:Arv Z h87 b71 k71 .boolean 4 own_ls5 (vI 0):=v87_1
  refine oV 197 #[oR b14,oI 1,oI 4,oR b16,oR b19,oI 0,oR b71,oI 0,oI 3,oI 3,oI 2,oU,oU] [vI 2] ?_
  obtain ⟨T88,h88,k88,X88,e88,E88,A88,EA88,st88⟩:=newPE (aty:=.boolean) X87 hx hZ (ow98 hw) e87 (g:=(mkF m 197 #[oR b14,oI 1,oI 4,oR b16,oR b19,oI 0,oR b71,oI 0,oI 3,oI 3,oI 2,oU,oU] [vI 2])) rfl (hb hby d1_197) rfl (by decide) (cap:=2) (by decide) (by decide) (by decide) (by decide) (ad:="[Z") (by decide +kernel)
  obtain ⟨b88,g_b88⟩:∃ z,z = h87.size:=⟨_,rfl⟩
  have sg_b88:h87.size≤b88:=Nat.le_of_eq g_b88.symm
  rw [← g_b88] at A88 EA88 st88
  have n_b88:=oT (oT (oT (oT (oT Zs57 E59.1) (Keep.of_wr W68).1) E71.1) Kq87.1) sg_b88
  have sz_b88:=oT KK87.1 sg_b88
  have u89:=(oW V_b71.lt Kq87.1)
  have m90:h68.size≤h87.size:=(oT (oT (Nat.le_refl _) E71.1) Kq87.1)
  have K88:Keep h0 h88 [b14]:=KK87.ext E88
  have V_b88:Arv Z h88 b88 k88 .boolean 2 [vI 0,vI 0] (vI 0):=(Arv.new A88 (by decide)).pad (pad_rep [] (vI 0) 2)
  refine oJ 199 #[oR b14,oI 1,oI 4,oR b16,oR b19,oI 0,oR b71,oI 0,oI 3,oI 3,oI 2,oU,oU] [vR b88] st88 ?_
  have c91:=oT m65 m73
  have q92:=oL u48 (oT c91 sg_b71)
  have G93:=(((V_b34.keep K75 (ninS (oM PE2.lt sz_b34) nin0)).keep Kq87 (ninS q92 nin0)).ext E88)
  have q94:=oL u20 (oT m26 sg_b24)
  have c95:=oT m26 m31
  have c96:=oT c95 m40
  have c97:=oT c96 m53
  have c98:=oT c97 m65
  have c99:=oT c98 m73
  have q100:=oL u20 (oT c99 sg_b71)
  have G101:=((((((((V18_0.ext E19).keep K23 (ninS (oL u20 sg_b19) nin0)).ext E24).keep K29 (ninS q94 (ninS (oL u20 sg_b19) nin0))).ext E34).keep K75 (ninS (oM PE2.lt sz_b16) nin0)).keep Kq87 (ninS q100 nin0)).ext E88)
  have q102:=oL u49 (oT c91 sg_b71)
  have G103:=(((V_x34a.keep K75 (ninS (oM PE2.lt sz_x34a) nin0)).keep Kq87 (ninS q102 nin0)).ext E88)
  have q104:=oL u60 (oT m73 sg_b71)
  have G105:=((((((V_b47.other W55 (oM PE2.lt sz_b47)).ext E59).other W68 (oM PE2.lt sz_b47)).ext E71).keep Kq87 (ninS q104 nin0)).ext E88)
  have q106:=oL u61 (oT m73 sg_b71)
  have G107:=((((((V_x47a.other W55 (oM PE2.lt sz_x47a)).ext E59).other W68 (oM PE2.lt sz_x47a)).ext E71).keep Kq87 (ninS q106 nin0)).ext E88)
  have G108:=((((V_b59.other W68 (oM PE2.lt sz_b59)).ext E71).keep Kq87 (ninS (oL u72 sg_b71) nin0)).ext E88)
  have G109:=(((((((Fw43.ext E47).other W55 (Or.inr (sn_93_95 hw))).ext E59).other W68 (Or.inr (sn_93_97 hw))).ext E71).keep Kq87 (ninS (oL PE2.lt sz_b71) nin0)).ext E88)
  have G110:=(((((Fw55.ext E59).other W68 (Or.inr (sn_95_97 hw))).ext E71).keep Kq87 (ninS (oL PE2.lt sz_b71) nin0)).ext E88)
  have G111:=(((Fw68.ext E71).keep Kq87 (ninS (oL PE2.lt sz_b71) nin0)).ext E88)
  have c112:=oT m31 m40
  have l113:b19 < b34:=oW u25 (oT c112 sg_b34)
  have l114:b34 < x34a:=by omega
  have l115:x34a < x34b:=by omega
  have l116:x34b < x34c:=by omega
  have l117:x34c < x34d:=by omega
  have l118:x34d < b47:=oW u52 sg_b47
  have l119:b47 < x47a:=by omega
  have l120:x47a < x47b:=by omega
  have l121:x47b < x47c:=by omega
  have l122:x47c < x47d:=by omega
  have l123:x47d < b59:=oW u64 sg_b59
  have l124:b59 < b71:=oW u72 sg_b71
  have l125:b71 < b88:=oW u89 sg_b88
  refine oX2 a0 [b14,b16,b19,b34,x34a,x34b,x34c,x34d,b47,x47a,x47b,x47c,x47d,b59,b71,b88] [0,k16,0,k34,kc34,0,0,0,k47,kc47,0,0,0,k59,k71,k88] [fE1_26 0 (vR 3),fE1_29 0 (vR 8),fE1_32 0 (vR 13)] [] [15,4,9,13] [15,14,3,1,4,8,9,13] 16 [oR 0,oI 1,oI 4,oR 1,oR 2,oI 0,oR 14,oI 0,oI 3,oI 3,oI 2,oU,oU] [vR 15] [(15,.boolean,2,[vI 0,vI 0]),(14,.boolean,4,[vI 1,vI 1,vI 1,vI 0]),(3,(.array .int),4,[vR 4,vR 5,vR 6,vR 7]),(1,.int,5,[vI 0,vI 16,vI 32,vI 48,vI 64]),(4,.int,4,[vI 0,vI 0,vI 0,vI 0]),(8,(.array .int),4,[vR 9,vR 10,vR 11,vR 12]),(9,.int,4,[vI 0,vI 0,vI 0,vI 0]),(13,.int,4,[vI 0,vI 0,vI 0,vI 0])] 132 [oR 0,oI 1,oI 4,oR 1,oR 2,oI 1,oR 14,oI 4,oR 15,oI 2,oI 2,oI 0,oI 4] [vR 2,vI 1] [(15,[vI 1,vI 0]),(4,[vI 48,vI 32,vI 16,vI 0]),(9,[vI 16,vI 16,vI 16,vI 16]),(13,[vI 48,vI 0,vI 0,vI 0])] tt hZ hown X88 N87 e88 (oA (ow92 hw) (oA (ow94 hw) (oA (ow96 hw) trivial))) trivial (oA G109 (oA G110 (oA G111 trivial))) (oA V_b88 (oA (V87_1.ext E88) (oA G93 (oA G101 (oA G103 (oA G105 (oA G107 (oA G108 trivial)))))))) (Or.inr (oA l17 (oA l82 (oA l113 (oA l114 (oA l115 (oA l116 (oA l117 (oA l118 (oA l119 (oA l120 (oA l121 (oA l122 (oA l123 (oA l124 (oA l125 trivial)))))))))))))))) (oA n_b88 (oA n_x34a (oA n_x47a (oA n_b59 trivial)))) rfl rfl (by decide +kernel) 303 (by decide +kernel) fun T126 h126 _ X126 N126 e126 K126 q126 M126=>?_
  have Kq126:Keep h88 h126 [b88,x34a,x47a,b59]:=K126
  have KK126:Keep h0 h126 [b14]:=Keep.trans K88 Kq126 (allS (Or.inr sz_b88) (allS (Or.inr sz_x34a) (allS (Or.inr sz_x47a) (allS (Or.inr sz_b59) all0))))
  obtain ⟨v126_0,-,-,-,v126_4,-,v126_6,v126_7,-⟩:=M126
  have V126_0:Arv Z h126 b88 k88 .boolean 2 [vI 1,vI 0] (vI 0):=v126_0
  have V126_4:Arv Z h126 x34a kc34 .int 4 own_ls6 (vI 0):=v126_4
  have V126_6:Arv Z h126 x47a kc47 .int 4 own_ls7 (vI 0):=v126_6
  have V126_7:Arv Z h126 b59 k59 .int 4 own_ls8 (vI 0):=v126_7
  refine oV 132 #[oR b14,oI 1,oI 4,oR b16,oR b19,oI 1,oR b71,oI 4,oR b88,oI 2,oI 2,oI 0,oI 4] [vR b19,vI 1] ?_
  have c127:=oT c112 m53
  have c128:=oT c127 m65
  have c129:=oT c128 m73
  have q130:=oL u25 (oT c129 sg_b71)
  have q131:=oL u25 (oT c128 sg_b59)
  have q132:=oL u25 (oT c127 sg_x47a)
  have q133:=oL u25 (oT c112 sg_x34a)
  have c134:=oT c129 m90
  have q135:=oL u25 (oT c134 sg_b88)
  have G136:=((((G69.ext E71).keep Kq87 (ninS q130 nin0)).ext E88).keep Kq126 (ninS q135 (ninS q133 (ninS q132 (ninS q131 nin0)))))
  have Zs137:n0≤h126.size:=(oT (oT (oT (oT (oT (oT Zs57 E59.1) (Keep.of_wr W68).1) E71.1) Kq87.1) E88.1) Kq126.1)
  refine own_cI X126 hx hZ hown e126 (ow82 hw) (ow83 hw) (mvT hZ (ow84 hw)) (ow85 hw) (ow86 hw) (ow87 hw) (ow88 hw) (ow54 hw) (ow13 hw) (ow89 hw) (((G74.keep Kq87).ext E88).keep Kq126) (y:=mn11) (z:=mn10) (argsL:=[]) (rest:=[vI 1]) (W:=1) hml.symm (hb hby d1_132) (lenOf pd0 rfl) rfl (by decide) (rm12a94 l Z a0 hw [] b19 h126 n0 Zs137 G136) fun _ T138 _ X138 hQ138=>?_
  obtain ⟨rfl,N138q,hh138⟩:=hQ138
  have N138:=Fr.app N126 N138q
  obtain ⟨_,X138,N138⟩:=own_hide X138 N138
  refine oV 137 #[oR b14,oI 1,oI 4,oR b16,oR b19,oI 1,oR b71,oI 4,oR b88,oI 2,oI 2,oI 0,oI 4] [vI 4,vI 1] ?_
  refine oG X138 tt 2 141 #[oR b14,oI 1,oI 4,oR b16,oR b19,oI 1,oR b71,oI 4,oR b88,oI 2,oI 2,oI 0,oI 4] [vI 4] rfl ?_
  obtain ⟨T139,h139,k139,X139,e139,E139,A139,EA139,st139⟩:=newPE (aty:=.boolean) X138 hx hZ (ow98 hw) hh138 (g:=(mkF m 141 #[oR b14,oI 1,oI 4,oR b16,oR b19,oI 1,oR b71,oI 4,oR b88,oI 2,oI 2,oI 0,oI 4] [vI 4])) rfl (hb hby d1_141) rfl (by decide) (cap:=4) (by decide) (by decide) (by decide) (by decide) (ad:="[Z") (by decide +kernel)
  obtain ⟨b139,g_b139⟩:∃ z,z = h126.size:=⟨_,rfl⟩
  have sg_b139:h126.size≤b139:=Nat.le_of_eq g_b139.symm
  rw [← g_b139] at A139 EA139 st139
  have n_b139:=oT Zs137 sg_b139
  have sz_b139:=oT KK126.1 sg_b139
  have u140:=(oW V_b88.lt Kq126.1)
  have m141:h87.size≤h126.size:=(oT (oT (Nat.le_refl _) E88.1) Kq126.1)
  have K139:Keep h0 h139 [b14]:=KK126.ext E139
  have V_b139:Arv Z h139 b139 k139 .boolean 4 own_ls1 (vI 0):=(Arv.new A139 (by decide)).pad (pad_rep [] (vI 0) 4)
  refine oH st139 X139 tt 3 149 #[oR b14,oI 1,oI 4,oR b16,oR b19,oI 1,oR b139,oI 4,oR b88,oI 2,oI 2,oI 0,oI 4] [vI 1,vR b19] rfl ?_
  have G142:=((((G76.keep Kq87 (ninS q130 nin0)).ext E88).keep Kq126 (ninS q135 (ninS q133 (ninS q132 (ninS q131 nin0))))).ext E139)
  have q143:=oL u35 (oT c85 sg_b71)
  have q144:=oL u35 (oT c84 sg_b59)
  have q145:=oL u35 (oT m53 sg_x47a)
  have c146:=oT c85 m90
  have q147:=oL u35 (oT c146 sg_b88)
  have G148:=((((G77.keep Kq87 (ninS q143 nin0)).ext E88).keep Kq126 (ninS q147 (ninS (oL u35 sg_x34a) (ninS q145 (ninS q144 nin0))))).ext E139)
  refine own_cI X139 hx hZ hown e139 (ow99 hw) (ow100 hw) (mvT hZ (ow101 hw)) (ow102 hw) (ow103 hw) (ow104 hw) (ow105 hw) (ow54 hw) (ow13 hw) (ow106 hw) ((((G74.keep Kq87).ext E88).keep Kq126).ext E139) (y:=mn16) (z:=mn15) (argsL:=[vI 1]) (rest:=[]) (W:=0) hml.symm (hb hby d1_149) (lenOf pd5 rfl) rfl (by decide) (rm13a99 l Z a0 hw [] b19 b29a k29b b29c b29d b29e b29f h139 n0 (oT Zs137 E139.1) ((((G74.keep Kq87).ext E88).keep Kq126).ext E139) G142 (G136.ext E139) G148) fun _ T149 _ X149 hQ149=>?_
  obtain ⟨rfl,N149q,hh149⟩:=hQ149
  have N149:=Fr.app N138 N149q
  obtain ⟨_,X149,N149⟩:=own_hide X149 N149
  refine oV 154 #[oR b14,oI 1,oI 4,oR b16,oR b19,oI 1,oR b139,oI 4,oR b88,oI 2,oI 2,oI 0,oI 4] [vR b29d] ?_
  have G150:=((((((g29_9.ext E34).keep K75).keep Kq87).ext E88).keep Kq126).ext E139)
  obtain ⟨T151,X151,e151,st151⟩:=castY X149 hx hZ hown (ow45 hw) hh149 (Ins.self G150) (g:=(mkF m 154 #[oR b14,oI 1,oI 4,oR b16,oR b19,oI 1,oR b139,oI 4,oR b88,oI 2,oI 2,oI 0,oI 4] [vR b29d])) rfl rfl (hb hby d1_154)
  refine oJ 157 #[oR b14,oI 1,oI 4,oR b16,oR b19,oI 1,oR b139,oI 4,oR b88,oI 2,oI 2,oI 0,oI 4] [vR b29d] st151 ?_
  have q152:=oL u37 (oT c85 sg_b71)
  have q153:=oL u37 (oT c84 sg_b59)
  have q154:=oL u37 (oT m53 sg_x47a)
  have q155:=oL u37 (oT c146 sg_b88)
  have G156:=((((((g29_8.ext E34).keep K75 (ninS (oM PE2.lt sz_b29d) nin0)).keep Kq87 (ninS q152 nin0)).ext E88).keep Kq126 (ninS q155 (ninS (oL u37 sg_x34a) (ninS q154 (ninS q153 nin0))))).ext E139)
  have l157:b19 < b29d:=oW u25 (oT m31 sg_b29d)
  have l158:b29d < b88:=oW u37 (oT c146 sg_b88)
  have l159:b88 < b139:=oW u140 sg_b139
  refine oX2 a0 [b14,b16,b19,b29d,b88,b139] [0,0,0,k24,0,k139] [] [] [5] [3,5] 6 [oR 0,oI 1,oI 4,oR 1,oR 2,oI 1,oR 5,oI 4,oR 4,oI 2,oI 2,oI 0,oI 4] [vR 3] [(3,.int,3,[vI 0,vI 1,vI 3]),(5,.boolean,4,[vI 0,vI 0,vI 0,vI 0])] 197 [oR 0,oI 1,oI 4,oR 1,oR 2,oI 1,oR 5,oI 0,oI 3,oI 3,oI 3,oI 0,oI 4] [vI 2] [(5,[vI 1,vI 1,vI 0,vI 1])] tt hZ hown X151 N149 e151 trivial trivial trivial (oA G156 (oA V_b139 trivial)) (Or.inr (oA l17 (oA l82 (oA l157 (oA l158 (oA l159 trivial)))))) (oA n_b139 trivial) rfl rfl (by decide +kernel) 51 (by decide +kernel) fun T160 h160 _ X160 N160 e160 K160 q160 M160=>?_
  have Kq160:Keep h139 h160 [b139]:=K160
  have KK160:Keep h0 h160 [b14]:=Keep.trans K139 Kq160 (allS (Or.inr sz_b139) all0)
  obtain ⟨-,v160_1,-⟩:=M160
  have V160_1:Arv Z h160 b139 k139 .boolean 4 own_ls9 (vI 0):=v160_1
  refine oV 197 #[oR b14,oI 1,oI 4,oR b16,oR b19,oI 1,oR b139,oI 0,oI 3,oI 3,oI 3,oI 0,oI 4] [vI 2] ?_
  obtain ⟨T161,h161,k161,X161,e161,E161,A161,EA161,st161⟩:=newPE (aty:=.boolean) X160 hx hZ (ow98 hw) e160 (g:=(mkF m 197 #[oR b14,oI 1,oI 4,oR b16,oR b19,oI 1,oR b139,oI 0,oI 3,oI 3,oI 3,oI 0,oI 4] [vI 2])) rfl (hb hby d1_197) rfl (by decide) (cap:=2) (by decide) (by decide) (by decide) (by decide) (ad:="[Z") (by decide +kernel)
  obtain ⟨b161,g_b161⟩:∃ z,z = h160.size:=⟨_,rfl⟩
  have sg_b161:h160.size≤b161:=Nat.le_of_eq g_b161.symm
  rw [← g_b161] at A161 EA161 st161
  have n_b161:=oT (oT (oT Zs137 E139.1) Kq160.1) sg_b161
  have sz_b161:=oT KK160.1 sg_b161
  have u162:=(oW V_b139.lt Kq160.1)
  have m163:h126.size≤h160.size:=(oT (oT (Nat.le_refl _) E139.1) Kq160.1)
  have K161:Keep h0 h161 [b14]:=KK160.ext E161
  have V_b161:Arv Z h161 b161 k161 .boolean 2 [vI 0,vI 0] (vI 0):=(Arv.new A161 (by decide)).pad (pad_rep [] (vI 0) 2)
  refine oJ 199 #[oR b14,oI 1,oI 4,oR b16,oR b19,oI 1,oR b139,oI 0,oI 3,oI 3,oI 3,oI 0,oI 4] [vR b161] st161 ?_
  have q164:=oL u48 (oT m65 sg_b59)
  have c165:=oT c91 m90
  have q166:=oL u48 (oT c165 sg_b88)
  have c167:=oT c165 m141
  have q168:=oL u48 (oT c167 sg_b139)
  have G169:=((((G93.keep Kq126 (ninS q166 (ninS (Ne.symm nn_x34a_b34) (ninS (oL u48 sg_x47a) (ninS q164 nin0))))).ext E139).keep Kq160 (ninS q168 nin0)).ext E161)
  have q170:=oL u20 (oT c98 sg_b59)
  have q171:=oL u20 (oT c97 sg_x47a)
  have q172:=oL u20 (oT c96 sg_x34a)
  have c173:=oT c99 m90
  have q174:=oL u20 (oT c173 sg_b88)
  have c175:=oT c173 m141
  have q176:=oL u20 (oT c175 sg_b139)
  have G177:=((((G101.keep Kq126 (ninS q174 (ninS q172 (ninS q171 (ninS q170 nin0))))).ext E139).keep Kq160 (ninS q176 nin0)).ext E161)
  have q178:=oL u50 (oT c91 sg_b71)
  have q179:=oL u50 (oT m65 sg_b59)
  have q180:=oL u50 (oT c165 sg_b88)
  have q181:=oL u50 (oT c167 sg_b139)
  have K182:Keep _ h161 [b71,b88,x34a,x47a,b59,b139]:=(Keep.trans ((Keep.trans ((Keep.trans (Keep.refl _ _) Kq87 (allS oI0 all0)).ext E88) Kq126 (allS oI1 (allS oI2 (allS oI3 (allS oI4 all0))))).ext E139) Kq160 (allS oI5 all0)).ext E161
  have G183:=((V_x34b.keep K75 (ninS (oM PE2.lt sz_x34b) nin0)).keep K182 (ninS q178 (ninS q180 (ninS nn_x34b_x34a (ninS (oL u50 sg_x47a) (ninS q179 (ninS q181 nin0)))))))
  have c184:=oT m73 m90
  have q185:=oL u60 (oT c184 sg_b88)
  have c186:=oT c184 m141
  have q187:=oL u60 (oT c186 sg_b139)
  have G188:=((((G105.keep Kq126 (ninS q185 (ninS (oM u49 sg_b47) (ninS (Ne.symm nn_x47a_b47) (ninS (oL u60 sg_b59) nin0))))).ext E139).keep Kq160 (ninS q187 nin0)).ext E161)
  have q189:=oL u62 (oT m73 sg_b71)
  have q190:=oL u62 (oT c184 sg_b88)
  have q191:=oL u62 (oT c186 sg_b139)
  have G192:=(((((V_x47b.other W55 (oM PE2.lt sz_x47b)).ext E59).other W68 (oM PE2.lt sz_x47b)).ext E71).keep K182 (ninS q189 (ninS q190 (ninS (oM u49 sg_x47b) (ninS nn_x47b_x47a (ninS (oL u62 sg_b59) (ninS q191 nin0)))))))
  have c193:=oT m90 m141
  have q194:=oL u72 (oT c193 sg_b139)
  have G195:=(((V126_7.ext E139).keep Kq160 (ninS q194 nin0)).ext E161)
  have G196:=((((G109.keep Kq126 (ninS (oL PE2.lt sz_b88) (ninS (oL PE2.lt sz_x34a) (ninS (oL PE2.lt sz_x47a) (ninS (oL PE2.lt sz_b59) nin0))))).ext E139).keep Kq160 (ninS (oL PE2.lt sz_b139) nin0)).ext E161)
  have G197:=((((G110.keep Kq126 (ninS (oL PE2.lt sz_b88) (ninS (oL PE2.lt sz_x34a) (ninS (oL PE2.lt sz_x47a) (ninS (oL PE2.lt sz_b59) nin0))))).ext E139).keep Kq160 (ninS (oL PE2.lt sz_b139) nin0)).ext E161)
  have G198:=((((G111.keep Kq126 (ninS (oL PE2.lt sz_b88) (ninS (oL PE2.lt sz_x34a) (ninS (oL PE2.lt sz_x47a) (ninS (oL PE2.lt sz_b59) nin0))))).ext E139).keep Kq160 (ninS (oL PE2.lt sz_b139) nin0)).ext E161)
  have l199:b59 < b139:=oW u72 (oT c193 sg_b139)
  have l200:b139 < b161:=oW u162 sg_b161
  refine oX2 a0 [b14,b16,b19,b34,x34a,x34b,x34c,x34d,b47,x47a,x47b,x47c,x47d,b59,b139,b161] [0,k16,0,k34,0,kc34,0,0,k47,0,kc47,0,0,k59,k139,k161] [fE1_26 0 (vR 3),fE1_29 0 (vR 8),fE1_32 0 (vR 13)] [] [15,5,10,13] [15,14,3,1,5,8,10,13] 16 [oR 0,oI 1,oI 4,oR 1,oR 2,oI 1,oR 14,oI 0,oI 3,oI 3,oI 3,oI 0,oI 4] [vR 15] [(15,.boolean,2,[vI 0,vI 0]),(14,.boolean,4,[vI 1,vI 1,vI 0,vI 1]),(3,(.array .int),4,[vR 4,vR 5,vR 6,vR 7]),(1,.int,5,[vI 0,vI 16,vI 32,vI 48,vI 64]),(5,.int,4,[vI 0,vI 0,vI 0,vI 0]),(8,(.array .int),4,[vR 9,vR 10,vR 11,vR 12]),(10,.int,4,[vI 0,vI 0,vI 0,vI 0]),(13,.int,4,[vI 48,vI 0,vI 0,vI 0])] 132 [oR 0,oI 1,oI 4,oR 1,oR 2,oI 2,oR 14,oI 4,oR 15,oI 2,oI 2,oI 0,oI 4] [vR 2,vI 2] [(15,[vI 1,vI 0]),(5,[vI 48,vI 32,vI 0,vI 16]),(10,[vI 16,vI 16,vI 16,vI 16]),(13,[vI 48,vI 48,vI 0,vI 0])] tt hZ hown X161 N160 e161 (oA (ow92 hw) (oA (ow94 hw) (oA (ow96 hw) trivial))) trivial (oA G196 (oA G197 (oA G198 trivial))) (oA V_b161 (oA (V160_1.ext E161) (oA G169 (oA G177 (oA G183 (oA G188 (oA G192 (oA G195 trivial)))))))) (Or.inr (oA l17 (oA l82 (oA l113 (oA l114 (oA l115 (oA l116 (oA l117 (oA l118 (oA l119 (oA l120 (oA l121 (oA l122 (oA l123 (oA l199 (oA l200 trivial)))))))))))))))) (oA n_b161 (oA n_x34b (oA n_x47b (oA n_b59 trivial)))) rfl rfl (by decide +kernel) 303 (by decide +kernel) fun T201 h201 _ X201 N201 e201 K201 q201 M201=>?_
  have Kq201:Keep h161 h201 [b161,x34b,x47b,b59]:=K201
  have KK201:Keep h0 h201 [b14]:=Keep.trans K161 Kq201 (allS (Or.inr sz_b161) (allS (Or.inr sz_x34b) (allS (Or.inr sz_x47b) (allS (Or.inr sz_b59) all0))))
  obtain ⟨v201_0,-,-,-,v201_4,-,v201_6,v201_7,-⟩:=M201
  have V201_0:Arv Z h201 b161 k161 .boolean 2 [vI 1,vI 0] (vI 0):=v201_0
  have V201_4:Arv Z h201 x34b kc34 .int 4 own_ls10 (vI 0):=v201_4
  have V201_6:Arv Z h201 x47b kc47 .int 4 own_ls7 (vI 0):=v201_6
  have V201_7:Arv Z h201 b59 k59 .int 4 own_ls11 (vI 0):=v201_7
  refine oV 132 #[oR b14,oI 1,oI 4,oR b16,oR b19,oI 2,oR b139,oI 4,oR b161,oI 2,oI 2,oI 0,oI 4] [vR b19,vI 2] ?_
  have c202:=oT c134 m141
  have q203:=oL u25 (oT c202 sg_b139)
  have q204:=oL u25 (oT c127 sg_x47b)
  have q205:=oL u25 (oT c112 sg_x34b)
  have c206:=oT c202 m163
  have q207:=oL u25 (oT c206 sg_b161)
  have G208:=((((G136.ext E139).keep Kq160 (ninS q203 nin0)).ext E161).keep Kq201 (ninS q207 (ninS q205 (ninS q204 (ninS q131 nin0)))))
  refine own_cI X201 hx hZ hown e201 (ow82 hw) (ow83 hw) (mvT hZ (ow84 hw)) (ow85 hw) (ow86 hw) (ow87 hw) (ow88 hw) (ow54 hw) (ow13 hw) (ow89 hw) ((G74.keep K182).keep Kq201) (y:=mn11) (z:=mn10) (argsL:=[]) (rest:=[vI 2]) (W:=1) hml.symm (hb hby d1_132) (lenOf pd0 rfl) rfl (by decide) (rm12a94 l Z a0 hw [] b19 h201 n0 (oT (oT (oT (oT Zs137 E139.1) Kq160.1) E161.1) Kq201.1) G208) fun _ T209 _ X209 hQ209=>?_
  obtain ⟨rfl,N209q,hh209⟩:=hQ209
  have N209:=Fr.app N201 N209q
  obtain ⟨_,X209,N209⟩:=own_hide X209 N209
  refine oV 137 #[oR b14,oI 1,oI 4,oR b16,oR b19,oI 2,oR b139,oI 4,oR b161,oI 2,oI 2,oI 0,oI 4] [vI 4,vI 2] ?_
  refine oG X209 tt 2 141 #[oR b14,oI 1,oI 4,oR b16,oR b19,oI 2,oR b139,oI 4,oR b161,oI 2,oI 2,oI 0,oI 4] [vI 4] rfl ?_
  obtain ⟨T210,h210,k210,X210,e210,E210,A210,EA210,st210⟩:=newPE (aty:=.boolean) X209 hx hZ (ow98 hw) hh209 (g:=(mkF m 141 #[oR b14,oI 1,oI 4,oR b16,oR b19,oI 2,oR b139,oI 4,oR b161,oI 2,oI 2,oI 0,oI 4] [vI 4])) rfl (hb hby d1_141) rfl (by decide) (cap:=4) (by decide) (by decide) (by decide) (by decide) (ad:="[Z") (by decide +kernel)
  obtain ⟨b210,g_b210⟩:∃ z,z = h201.size:=⟨_,rfl⟩
  have sg_b210:h201.size≤b210:=Nat.le_of_eq g_b210.symm
  rw [← g_b210] at A210 EA210 st210
  have n_b210:=oT (oT (oT (oT (oT Zs137 E139.1) Kq160.1) E161.1) Kq201.1) sg_b210
  have sz_b210:=oT KK201.1 sg_b210
  have u211:=(oW V_b161.lt Kq201.1)
  have m212:h160.size≤h201.size:=(oT (oT (Nat.le_refl _) E161.1) Kq201.1)
  have K210:Keep h0 h210 [b14]:=KK201.ext E210
  have V_b210:Arv Z h210 b210 k210 .boolean 4 own_ls1 (vI 0):=(Arv.new A210 (by decide)).pad (pad_rep [] (vI 0) 4)
  refine oH st210 X210 tt 3 149 #[oR b14,oI 1,oI 4,oR b16,oR b19,oI 2,oR b210,oI 4,oR b161,oI 2,oI 2,oI 0,oI 4] [vI 2,vR b19] rfl ?_
  have G213:=((((G142.keep Kq160 (ninS q203 nin0)).ext E161).keep Kq201 (ninS q207 (ninS q205 (ninS q204 (ninS q131 nin0))))).ext E210)
  have c214:=oT c146 m141
  have q215:=oL u35 (oT c214 sg_b139)
  have q216:=oL u35 (oT m53 sg_x47b)
  have c217:=oT c214 m163
  have q218:=oL u35 (oT c217 sg_b161)
  have G219:=((((G148.keep Kq160 (ninS q215 nin0)).ext E161).keep Kq201 (ninS q218 (ninS (oL u35 sg_x34b) (ninS q216 (ninS q144 nin0))))).ext E210)
  have Zs220:n0≤h210.size:=(oT (oT (oT (oT (oT Zs137 E139.1) Kq160.1) E161.1) Kq201.1) E210.1)
  refine own_cI X210 hx hZ hown e210 (ow99 hw) (ow100 hw) (mvT hZ (ow101 hw)) (ow102 hw) (ow103 hw) (ow104 hw) (ow105 hw) (ow54 hw) (ow13 hw) (ow106 hw) (((G74.keep K182).keep Kq201).ext E210) (y:=mn16) (z:=mn15) (argsL:=[vI 2]) (rest:=[]) (W:=0) hml.symm (hb hby d1_149) (lenOf pd5 rfl) rfl (by decide) (rm13a103 l Z a0 hw [] b19 b29a k29b b29c b29d b29e b29f h210 n0 Zs220 (((G74.keep K182).keep Kq201).ext E210) G213 (G208.ext E210) G219) fun _ T221 _ X221 hQ221=>?_
  obtain ⟨rfl,N221q,hh221⟩:=hQ221
  have N221:=Fr.app N209 N221q
  obtain ⟨_,X221,N221⟩:=own_hide X221 N221
  refine oV 154 #[oR b14,oI 1,oI 4,oR b16,oR b19,oI 2,oR b210,oI 4,oR b161,oI 2,oI 2,oI 0,oI 4] [vR b29e] ?_
  have G222:=(((((g29_11.ext E34).keep K75).keep K182).keep Kq201).ext E210)
  obtain ⟨T223,X223,e223,st223⟩:=castY X221 hx hZ hown (ow45 hw) hh221 (Ins.self G222) (g:=(mkF m 154 #[oR b14,oI 1,oI 4,oR b16,oR b19,oI 2,oR b210,oI 4,oR b161,oI 2,oI 2,oI 0,oI 4] [vR b29e])) rfl rfl (hb hby d1_154)
  refine oJ 157 #[oR b14,oI 1,oI 4,oR b16,oR b19,oI 2,oR b210,oI 4,oR b161,oI 2,oI 2,oI 0,oI 4] [vR b29e] st223 ?_
  have q224:=oL u38 (oT c85 sg_b71)
  have q225:=oL u38 (oT c84 sg_b59)
  have q226:=oL u38 (oT m53 sg_x47a)
  have q227:=oL u38 (oT c146 sg_b88)
  have q228:=oL u38 (oT c214 sg_b139)
  have q229:=oL u38 (oT m53 sg_x47b)
  have q230:=oL u38 (oT c217 sg_b161)
  have G231:=(((((g29_10.ext E34).keep K75 (ninS (oM PE2.lt sz_b29e) nin0)).keep K182 (ninS q224 (ninS q227 (ninS (oL u38 sg_x34a) (ninS q226 (ninS q225 (ninS q228 nin0))))))).keep Kq201 (ninS q230 (ninS (oL u38 sg_x34b) (ninS q229 (ninS q225 nin0))))).ext E210)
  have l232:b19 < b29e:=oW u25 (oT m31 sg_b29e)
  have l233:b29e < b161:=oW u38 (oT c217 sg_b161)
  have l234:b161 < b210:=oW u211 sg_b210
  refine oX2 a0 [b14,b16,b19,b29e,b161,b210] [0,0,0,k24,0,k210] [] [] [5] [3,5] 6 [oR 0,oI 1,oI 4,oR 1,oR 2,oI 2,oR 5,oI 4,oR 4,oI 2,oI 2,oI 0,oI 4] [vR 3] [(3,.int,3,[vI 0,vI 2,vI 3]),(5,.boolean,4,[vI 0,vI 0,vI 0,vI 0])] 197 [oR 0,oI 1,oI 4,oR 1,oR 2,oI 2,oR 5,oI 0,oI 3,oI 3,oI 3,oI 0,oI 4] [vI 2] [(5,[vI 1,vI 0,vI 1,vI 1])] tt hZ hown X223 N221 e223 trivial trivial trivial (oA G231 (oA V_b210 trivial)) (Or.inr (oA l17 (oA l82 (oA l232 (oA l233 (oA l234 trivial)))))) (oA n_b210 trivial) rfl rfl (by decide +kernel) 51 (by decide +kernel) fun T235 h235 _ X235 N235 e235 K235 q235 M235=>?_
  have Kq235:Keep h210 h235 [b210]:=K235
  have KK235:Keep h0 h235 [b14]:=Keep.trans K210 Kq235 (allS (Or.inr sz_b210) all0)
  obtain ⟨-,v235_1,-⟩:=M235
  have V235_1:Arv Z h235 b210 k210 .boolean 4 own_ls12 (vI 0):=v235_1
  refine oV 197 #[oR b14,oI 1,oI 4,oR b16,oR b19,oI 2,oR b210,oI 0,oI 3,oI 3,oI 3,oI 0,oI 4] [vI 2] ?_
  obtain ⟨T236,h236,k236,X236,e236,E236,A236,EA236,st236⟩:=newPE (aty:=.boolean) X235 hx hZ (ow98 hw) e235 (g:=(mkF m 197 #[oR b14,oI 1,oI 4,oR b16,oR b19,oI 2,oR b210,oI 0,oI 3,oI 3,oI 3,oI 0,oI 4] [vI 2])) rfl (hb hby d1_197) rfl (by decide) (cap:=2) (by decide) (by decide) (by decide) (by decide) (ad:="[Z") (by decide +kernel)
  obtain ⟨b236,g_b236⟩:∃ z,z = h235.size:=⟨_,rfl⟩
  have sg_b236:h235.size≤b236:=Nat.le_of_eq g_b236.symm
  rw [← g_b236] at A236 EA236 st236
  have n_b236:=oT (oT Zs220 Kq235.1) sg_b236
  have sz_b236:=oT KK235.1 sg_b236
  have u237:=(oW V_b210.lt Kq235.1)
  have m238:h201.size≤h235.size:=(oT (oT (Nat.le_refl _) E210.1) Kq235.1)
  have K236:Keep h0 h236 [b14]:=KK235.ext E236
  have V_b236:Arv Z h236 b236 k236 .boolean 2 [vI 0,vI 0] (vI 0):=(Arv.new A236 (by decide)).pad (pad_rep [] (vI 0) 2)
  refine oJ 199 #[oR b14,oI 1,oI 4,oR b16,oR b19,oI 2,oR b210,oI 0,oI 3,oI 3,oI 3,oI 0,oI 4] [vR b236] st236 ?_
  have c239:=oT c167 m163
  have q240:=oL u48 (oT c239 sg_b161)
  have c241:=oT c239 m212
  have q242:=oL u48 (oT c241 sg_b210)
  have G243:=((((G169.keep Kq201 (ninS q240 (ninS (Ne.symm nn_x34b_b34) (ninS (oL u48 sg_x47b) (ninS q164 nin0))))).ext E210).keep Kq235 (ninS q242 nin0)).ext E236)
  have q244:=oL u20 (oT c97 sg_x47b)
  have q245:=oL u20 (oT c96 sg_x34b)
  have c246:=oT c175 m163
  have q247:=oL u20 (oT c246 sg_b161)
  have c248:=oT c246 m212
  have q249:=oL u20 (oT c248 sg_b210)
  have G250:=((((G177.keep Kq201 (ninS q247 (ninS q245 (ninS q244 (ninS q170 nin0))))).ext E210).keep Kq235 (ninS q249 nin0)).ext E236)
  have q251:=oL u51 (oT c91 sg_b71)
  have q252:=oL u51 (oT m65 sg_b59)
  have q253:=oL u51 (oT c165 sg_b88)
  have q254:=oL u51 (oT c167 sg_b139)
  have q255:=oL u51 (oT c239 sg_b161)
  have q256:=oL u51 (oT c241 sg_b210)
  have G257:=((((((V_x34c.keep K75 (ninS (oM PE2.lt sz_x34c) nin0)).keep K182 (ninS q251 (ninS q253 (ninS nn_x34c_x34a (ninS (oL u51 sg_x47a) (ninS q252 (ninS q254 nin0))))))).keep Kq201 (ninS q255 (ninS nn_x34c_x34b (ninS (oL u51 sg_x47b) (ninS q252 nin0))))).ext E210).keep Kq235 (ninS q256 nin0)).ext E236)
  have c258:=oT c186 m163
  have q259:=oL u60 (oT c258 sg_b161)
  have c260:=oT c258 m212
  have q261:=oL u60 (oT c260 sg_b210)
  have G262:=((((G188.keep Kq201 (ninS q259 (ninS (oM u50 sg_b47) (ninS (Ne.symm nn_x47b_b47) (ninS (oL u60 sg_b59) nin0))))).ext E210).keep Kq235 (ninS q261 nin0)).ext E236)
  have q263:=oL u63 (oT m73 sg_b71)
  have q264:=oL u63 (oT c184 sg_b88)
  have q265:=oL u63 (oT c186 sg_b139)
  have q266:=oL u63 (oT c258 sg_b161)
  have q267:=oL u63 (oT c260 sg_b210)
  have G268:=(((((((((V_x47c.other W55 (oM PE2.lt sz_x47c)).ext E59).other W68 (oM PE2.lt sz_x47c)).ext E71).keep K182 (ninS q263 (ninS q264 (ninS (oM u49 sg_x47c) (ninS nn_x47c_x47a (ninS (oL u63 sg_b59) (ninS q265 nin0))))))).keep Kq201 (ninS q266 (ninS (oM u50 sg_x47c) (ninS nn_x47c_x47b (ninS (oL u63 sg_b59) nin0))))).ext E210).keep Kq235 (ninS q267 nin0)).ext E236)
  have c269:=oT c193 m163
  have c270:=oT c269 m212
  have q271:=oL u72 (oT c270 sg_b210)
  have G272:=(((V201_7.ext E210).keep Kq235 (ninS q271 nin0)).ext E236)
  have G273:=((((G196.keep Kq201 (ninS (oL PE2.lt sz_b161) (ninS (oL PE2.lt sz_x34b) (ninS (oL PE2.lt sz_x47b) (ninS (oL PE2.lt sz_b59) nin0))))).ext E210).keep Kq235 (ninS (oL PE2.lt sz_b210) nin0)).ext E236)
  have G274:=((((G197.keep Kq201 (ninS (oL PE2.lt sz_b161) (ninS (oL PE2.lt sz_x34b) (ninS (oL PE2.lt sz_x47b) (ninS (oL PE2.lt sz_b59) nin0))))).ext E210).keep Kq235 (ninS (oL PE2.lt sz_b210) nin0)).ext E236)
  have G275:=((((G198.keep Kq201 (ninS (oL PE2.lt sz_b161) (ninS (oL PE2.lt sz_x34b) (ninS (oL PE2.lt sz_x47b) (ninS (oL PE2.lt sz_b59) nin0))))).ext E210).keep Kq235 (ninS (oL PE2.lt sz_b210) nin0)).ext E236)
  have l276:b59 < b210:=oW u72 (oT c270 sg_b210)
  have l277:b210 < b236:=oW u237 sg_b236
  refine oX2 a0 [b14,b16,b19,b34,x34a,x34b,x34c,x34d,b47,x47a,x47b,x47c,x47d,b59,b210,b236] [0,k16,0,k34,0,0,kc34,0,k47,0,0,kc47,0,k59,k210,k236] [fE1_26 0 (vR 3),fE1_29 0 (vR 8),fE1_32 0 (vR 13)] [] [15,6,11,13] [15,14,3,1,6,8,11,13] 16 [oR 0,oI 1,oI 4,oR 1,oR 2,oI 2,oR 14,oI 0,oI 3,oI 3,oI 3,oI 0,oI 4] [vR 15] [(15,.boolean,2,[vI 0,vI 0]),(14,.boolean,4,[vI 1,vI 0,vI 1,vI 1]),(3,(.array .int),4,[vR 4,vR 5,vR 6,vR 7]),(1,.int,5,[vI 0,vI 16,vI 32,vI 48,vI 64]),(6,.int,4,[vI 0,vI 0,vI 0,vI 0]),(8,(.array .int),4,[vR 9,vR 10,vR 11,vR 12]),(11,.int,4,[vI 0,vI 0,vI 0,vI 0]),(13,.int,4,[vI 48,vI 48,vI 0,vI 0])] 132 [oR 0,oI 1,oI 4,oR 1,oR 2,oI 3,oR 14,oI 4,oR 15,oI 2,oI 2,oI 0,oI 4] [vR 2,vI 3] [(15,[vI 1,vI 0]),(6,[vI 48,vI 16,vI 0,vI 32]),(11,[vI 16,vI 16,vI 16,vI 16]),(13,[vI 48,vI 48,vI 48,vI 0])] tt hZ hown X236 N235 e236 (oA (ow92 hw) (oA (ow94 hw) (oA (ow96 hw) trivial))) trivial (oA G273 (oA G274 (oA G275 trivial))) (oA V_b236 (oA (V235_1.ext E236) (oA G243 (oA G250 (oA G257 (oA G262 (oA G268 (oA G272 trivial)))))))) (Or.inr (oA l17 (oA l82 (oA l113 (oA l114 (oA l115 (oA l116 (oA l117 (oA l118 (oA l119 (oA l120 (oA l121 (oA l122 (oA l123 (oA l276 (oA l277 trivial)))))))))))))))) (oA n_b236 (oA n_x34c (oA n_x47c (oA n_b59 trivial)))) rfl rfl (by decide +kernel) 303 (by decide +kernel) fun T278 h278 _ X278 N278 e278 K278 q278 M278=>?_
  have Kq278:Keep h236 h278 [b236,x34c,x47c,b59]:=K278
  have KK278:Keep h0 h278 [b14]:=Keep.trans K236 Kq278 (allS (Or.inr sz_b236) (allS (Or.inr sz_x34c) (allS (Or.inr sz_x47c) (allS (Or.inr sz_b59) all0))))
  obtain ⟨v278_0,-,-,-,v278_4,-,v278_6,v278_7,-⟩:=M278
  have V278_0:Arv Z h278 b236 k236 .boolean 2 [vI 1,vI 0] (vI 0):=v278_0
  have V278_4:Arv Z h278 x34c kc34 .int 4 own_ls13 (vI 0):=v278_4
  have V278_6:Arv Z h278 x47c kc47 .int 4 own_ls7 (vI 0):=v278_6
  have V278_7:Arv Z h278 b59 k59 .int 4 own_ls14 (vI 0):=v278_7
  refine oV 132 #[oR b14,oI 1,oI 4,oR b16,oR b19,oI 3,oR b210,oI 4,oR b236,oI 2,oI 2,oI 0,oI 4] [vR b19,vI 3] ?_
  have c279:=oT c206 m212
  have q280:=oL u25 (oT c279 sg_b210)
  have q281:=oL u25 (oT c127 sg_x47c)
  have q282:=oL u25 (oT c112 sg_x34c)
  have c283:=oT c279 m238
  have q284:=oL u25 (oT c283 sg_b236)
  have G285:=((((G208.ext E210).keep Kq235 (ninS q280 nin0)).ext E236).keep Kq278 (ninS q284 (ninS q282 (ninS q281 (ninS q131 nin0)))))
  have G286:=((((((G74.keep K182).keep Kq201).ext E210).keep Kq235).ext E236).keep Kq278)
  refine own_cI X278 hx hZ hown e278 (ow82 hw) (ow83 hw) (mvT hZ (ow84 hw)) (ow85 hw) (ow86 hw) (ow87 hw) (ow88 hw) (ow54 hw) (ow13 hw) (ow89 hw) G286 (y:=mn11) (z:=mn10) (argsL:=[]) (rest:=[vI 3]) (W:=1) hml.symm (hb hby d1_132) (lenOf pd0 rfl) rfl (by decide) (rm12a94 l Z a0 hw [] b19 h278 n0 (oT (oT (oT Zs220 Kq235.1) E236.1) Kq278.1) G285) fun _ T287 _ X287 hQ287=>?_
  obtain ⟨rfl,N287q,hh287⟩:=hQ287
  have N287:=Fr.app N278 N287q
  obtain ⟨_,X287,N287⟩:=own_hide X287 N287
  refine oV 137 #[oR b14,oI 1,oI 4,oR b16,oR b19,oI 3,oR b210,oI 4,oR b236,oI 2,oI 2,oI 0,oI 4] [vI 4,vI 3] ?_
  refine oG X287 tt 2 141 #[oR b14,oI 1,oI 4,oR b16,oR b19,oI 3,oR b210,oI 4,oR b236,oI 2,oI 2,oI 0,oI 4] [vI 4] rfl ?_
  obtain ⟨T288,h288,k288,X288,e288,E288,A288,EA288,st288⟩:=newPE (aty:=.boolean) X287 hx hZ (ow98 hw) hh287 (g:=(mkF m 141 #[oR b14,oI 1,oI 4,oR b16,oR b19,oI 3,oR b210,oI 4,oR b236,oI 2,oI 2,oI 0,oI 4] [vI 4])) rfl (hb hby d1_141) rfl (by decide) (cap:=4) (by decide) (by decide) (by decide) (by decide) (ad:="[Z") (by decide +kernel)
  obtain ⟨b288,g_b288⟩:∃ z,z = h278.size:=⟨_,rfl⟩
  have sg_b288:h278.size≤b288:=Nat.le_of_eq g_b288.symm
  rw [← g_b288] at A288 EA288 st288
  have n_b288:=oT (oT (oT (oT Zs220 Kq235.1) E236.1) Kq278.1) sg_b288
  have sz_b288:=oT KK278.1 sg_b288
  have u289:=(oW V_b236.lt Kq278.1)
  have m290:h235.size≤h278.size:=(oT (oT (Nat.le_refl _) E236.1) Kq278.1)
  have K288:Keep h0 h288 [b14]:=KK278.ext E288
  have V_b288:Arv Z h288 b288 k288 .boolean 4 own_ls1 (vI 0):=(Arv.new A288 (by decide)).pad (pad_rep [] (vI 0) 4)
  refine oH st288 X288 tt 3 149 #[oR b14,oI 1,oI 4,oR b16,oR b19,oI 3,oR b288,oI 4,oR b236,oI 2,oI 2,oI 0,oI 4] [vI 3,vR b19] rfl ?_
  have G291:=((((G213.keep Kq235 (ninS q280 nin0)).ext E236).keep Kq278 (ninS q284 (ninS q282 (ninS q281 (ninS q131 nin0))))).ext E288)
  have c292:=oT c217 m212
  have q293:=oL u35 (oT c292 sg_b210)
  have q294:=oL u35 (oT m53 sg_x47c)
  have c295:=oT c292 m238
  have q296:=oL u35 (oT c295 sg_b236)
  have G297:=((((G219.keep Kq235 (ninS q293 nin0)).ext E236).keep Kq278 (ninS q296 (ninS (oL u35 sg_x34c) (ninS q294 (ninS q144 nin0))))).ext E288)
  refine own_cI X288 hx hZ hown e288 (ow99 hw) (ow100 hw) (mvT hZ (ow101 hw)) (ow102 hw) (ow103 hw) (ow104 hw) (ow105 hw) (ow54 hw) (ow13 hw) (ow106 hw) (G286.ext E288) (y:=mn16) (z:=mn15) (argsL:=[vI 3]) (rest:=[]) (W:=0) hml.symm (hb hby d1_149) (lenOf pd5 rfl) rfl (by decide) (rm13a107 l Z a0 hw [] b19 b29a k29b b29c b29d b29e b29f h288 n0 (oT (oT (oT (oT Zs220 Kq235.1) E236.1) Kq278.1) E288.1) (G286.ext E288) G291 (G285.ext E288) G297) fun _ T298 _ X298 hQ298=>?_
  obtain ⟨rfl,N298q,hh298⟩:=hQ298
  have N298:=Fr.app N287 N298q
  obtain ⟨_,X298,N298⟩:=own_hide X298 N298
  refine oV 154 #[oR b14,oI 1,oI 4,oR b16,oR b19,oI 3,oR b288,oI 4,oR b236,oI 2,oI 2,oI 0,oI 4] [vR b29f] ?_
  have K299:Keep _ h288 [b161,x34b,x47b,b59,b210,b236,x34c,x47c]:=(Keep.trans ((Keep.trans ((Keep.trans (Keep.refl _ _) Kq201 (allS oI0 (allS oI1 (allS oI2 (allS oI3 all0))))).ext E210) Kq235 (allS oI4 all0)).ext E236) Kq278 (allS oI5 (allS oI6 (allS (Or.inl (List.mem_of_getElem? (i:=7) rfl)) (allS oI3 all0))))).ext E288
  obtain ⟨T300,X300,e300,st300⟩:=castY X298 hx hZ hown (ow45 hw) hh298 (Ins.self ((((g29_13.ext E34).keep K75).keep K182).keep K299)) (g:=(mkF m 154 #[oR b14,oI 1,oI 4,oR b16,oR b19,oI 3,oR b288,oI 4,oR b236,oI 2,oI 2,oI 0,oI 4] [vR b29f])) rfl rfl (hb hby d1_154)
  refine oJ 157 #[oR b14,oI 1,oI 4,oR b16,oR b19,oI 3,oR b288,oI 4,oR b236,oI 2,oI 2,oI 0,oI 4] [vR b29f] st300 ?_
  have q301:=oL u39 (oT c85 sg_b71)
  have q302:=oL u39 (oT c84 sg_b59)
  have q303:=oL u39 (oT m53 sg_x47a)
  have q304:=oL u39 (oT c146 sg_b88)
  have q305:=oL u39 (oT c214 sg_b139)
  have q306:=oL u39 (oT m53 sg_x47b)
  have q307:=oL u39 (oT c217 sg_b161)
  have q308:=oL u39 (oT c292 sg_b210)
  have q309:=oL u39 (oT m53 sg_x47c)
  have q310:=oL u39 (oT c295 sg_b236)
  have G311:=((((g29_12.ext E34).keep K75 (ninS (oM PE2.lt sz_b29f) nin0)).keep K182 (ninS q301 (ninS q304 (ninS (oL u39 sg_x34a) (ninS q303 (ninS q302 (ninS q305 nin0))))))).keep K299 (ninS q307 (ninS (oL u39 sg_x34b) (ninS q306 (ninS q302 (ninS q308 (ninS q310 (ninS (oL u39 sg_x34c) (ninS q309 nin0)))))))))
  have l312:b19 < b29f:=oW u25 (oT m31 sg_b29f)
  have l313:b29f < b236:=oW u39 (oT c295 sg_b236)
  have l314:b236 < b288:=oW u289 sg_b288
  refine oX2 a0 [b14,b16,b19,b29f,b236,b288] [0,0,0,k24,0,k288] [] [] [5] [3,5] 6 [oR 0,oI 1,oI 4,oR 1,oR 2,oI 3,oR 5,oI 4,oR 4,oI 2,oI 2,oI 0,oI 4] [vR 3] [(3,.int,3,[vI 1,vI 2,vI 3]),(5,.boolean,4,[vI 0,vI 0,vI 0,vI 0])] 197 [oR 0,oI 1,oI 4,oR 1,oR 2,oI 3,oR 5,oI 0,oI 3,oI 3,oI 3,oI 0,oI 4] [vI 2] [(5,[vI 0,vI 1,vI 1,vI 1])] tt hZ hown X300 N298 e300 trivial trivial trivial (oA G311 (oA V_b288 trivial)) (Or.inr (oA l17 (oA l82 (oA l312 (oA l313 (oA l314 trivial)))))) (oA n_b288 trivial) rfl rfl (by decide +kernel) 51 (by decide +kernel) fun T315 h315 _ X315 N315 e315 K315 q315 M315=>?_
  have Kq315:Keep h288 h315 [b288]:=K315
  have KK315:Keep h0 h315 [b14]:=Keep.trans K288 Kq315 (allS (Or.inr sz_b288) all0)
  obtain ⟨-,v315_1,-⟩:=M315
  have V315_1:Arv Z h315 b288 k288 .boolean 4 own_ls15 (vI 0):=v315_1
  refine oV 197 #[oR b14,oI 1,oI 4,oR b16,oR b19,oI 3,oR b288,oI 0,oI 3,oI 3,oI 3,oI 0,oI 4] [vI 2] ?_
  obtain ⟨T316,h316,k316,X316,e316,E316,A316,EA316,st316⟩:=newPE (aty:=.boolean) X315 hx hZ (ow98 hw) e315 (g:=(mkF m 197 #[oR b14,oI 1,oI 4,oR b16,oR b19,oI 3,oR b288,oI 0,oI 3,oI 3,oI 3,oI 0,oI 4] [vI 2])) rfl (hb hby d1_197) rfl (by decide) (cap:=2) (by decide) (by decide) (by decide) (by decide) (ad:="[Z") (by decide +kernel)
  have Zs317:n0≤h315.size:=(oT (oT (oT (oT (oT Zs220 Kq235.1) E236.1) Kq278.1) E288.1) Kq315.1)
  obtain ⟨b316,g_b316⟩:∃ z,z = h315.size:=⟨_,rfl⟩
  have sg_b316:h315.size≤b316:=Nat.le_of_eq g_b316.symm
  rw [← g_b316] at A316 EA316 st316
  have n_b316:=oT Zs317 sg_b316
  have sz_b316:=oT KK315.1 sg_b316
  have u318:=(oW V_b288.lt Kq315.1)
  have m319:h278.size≤h315.size:=(oT (oT (Nat.le_refl _) E288.1) Kq315.1)
  have K316:Keep h0 h316 [b14]:=KK315.ext E316
  have V_b316:Arv Z h316 b316 k316 .boolean 2 [vI 0,vI 0] (vI 0):=(Arv.new A316 (by decide)).pad (pad_rep [] (vI 0) 2)
  refine oJ 199 #[oR b14,oI 1,oI 4,oR b16,oR b19,oI 3,oR b288,oI 0,oI 3,oI 3,oI 3,oI 0,oI 4] [vR b316] st316 ?_
  have c320:=oT c241 m238
  have q321:=oL u48 (oT c320 sg_b236)
  have c322:=oT c320 m290
  have q323:=oL u48 (oT c322 sg_b288)
  have G324:=((((G243.keep Kq278 (ninS q321 (ninS (Ne.symm nn_x34c_b34) (ninS (oL u48 sg_x47c) (ninS q164 nin0))))).ext E288).keep Kq315 (ninS q323 nin0)).ext E316)
  have q325:=oL u20 (oT c97 sg_x47c)
  have q326:=oL u20 (oT c96 sg_x34c)
  have c327:=oT c248 m238
  have q328:=oL u20 (oT c327 sg_b236)
  have c329:=oT c327 m290
  have q330:=oL u20 (oT c329 sg_b288)
  have G331:=((((G250.keep Kq278 (ninS q328 (ninS q326 (ninS q325 (ninS q170 nin0))))).ext E288).keep Kq315 (ninS q330 nin0)).ext E316)
  have q332:=oL u52 (oT c91 sg_b71)
  have q333:=oL u52 (oT m65 sg_b59)
  have q334:=oL u52 (oT c165 sg_b88)
  have q335:=oL u52 (oT c167 sg_b139)
  have q336:=oL u52 (oT c239 sg_b161)
  have q337:=oL u52 (oT c241 sg_b210)
  have q338:=oL u52 (oT c320 sg_b236)
  have q339:=oL u52 (oT c322 sg_b288)
  have G340:=(((((V_x34d.keep K75 (ninS (oM PE2.lt sz_x34d) nin0)).keep K182 (ninS q332 (ninS q334 (ninS nn_x34d_x34a (ninS (oL u52 sg_x47a) (ninS q333 (ninS q335 nin0))))))).keep K299 (ninS q336 (ninS nn_x34d_x34b (ninS (oL u52 sg_x47b) (ninS q333 (ninS q337 (ninS q338 (ninS nn_x34d_x34c (ninS (oL u52 sg_x47c) nin0))))))))).keep Kq315 (ninS q339 nin0)).ext E316)
  have c341:=oT c260 m238
  have q342:=oL u60 (oT c341 sg_b236)
  have c343:=oT c341 m290
  have q344:=oL u60 (oT c343 sg_b288)
  have G345:=((((G262.keep Kq278 (ninS q342 (ninS (oM u51 sg_b47) (ninS (Ne.symm nn_x47c_b47) (ninS (oL u60 sg_b59) nin0))))).ext E288).keep Kq315 (ninS q344 nin0)).ext E316)
  have q346:=oL u64 (oT m73 sg_b71)
  have q347:=oL u64 (oT c184 sg_b88)
  have q348:=oL u64 (oT c186 sg_b139)
  have q349:=oL u64 (oT c258 sg_b161)
  have q350:=oL u64 (oT c260 sg_b210)
  have q351:=oL u64 (oT c341 sg_b236)
  have q352:=oL u64 (oT c343 sg_b288)
  have G353:=((((((((V_x47d.other W55 (oM PE2.lt sz_x47d)).ext E59).other W68 (oM PE2.lt sz_x47d)).ext E71).keep K182 (ninS q346 (ninS q347 (ninS (oM u49 sg_x47d) (ninS nn_x47d_x47a (ninS (oL u64 sg_b59) (ninS q348 nin0))))))).keep K299 (ninS q349 (ninS (oM u50 sg_x47d) (ninS nn_x47d_x47b (ninS (oL u64 sg_b59) (ninS q350 (ninS q351 (ninS (oM u51 sg_x47d) (ninS nn_x47d_x47c nin0))))))))).keep Kq315 (ninS q352 nin0)).ext E316)
  have c354:=oT c270 m238
  have c355:=oT c354 m290
  have q356:=oL u72 (oT c355 sg_b288)
  have G357:=(((V278_7.ext E288).keep Kq315 (ninS q356 nin0)).ext E316)
  have G358:=((((G273.keep Kq278 (ninS (oL PE2.lt sz_b236) (ninS (oL PE2.lt sz_x34c) (ninS (oL PE2.lt sz_x47c) (ninS (oL PE2.lt sz_b59) nin0))))).ext E288).keep Kq315 (ninS (oL PE2.lt sz_b288) nin0)).ext E316)
  have G359:=((((G274.keep Kq278 (ninS (oL PE2.lt sz_b236) (ninS (oL PE2.lt sz_x34c) (ninS (oL PE2.lt sz_x47c) (ninS (oL PE2.lt sz_b59) nin0))))).ext E288).keep Kq315 (ninS (oL PE2.lt sz_b288) nin0)).ext E316)
  have G360:=((((G275.keep Kq278 (ninS (oL PE2.lt sz_b236) (ninS (oL PE2.lt sz_x34c) (ninS (oL PE2.lt sz_x47c) (ninS (oL PE2.lt sz_b59) nin0))))).ext E288).keep Kq315 (ninS (oL PE2.lt sz_b288) nin0)).ext E316)
  have l361:b59 < b288:=oW u72 (oT c355 sg_b288)
  have l362:b288 < b316:=oW u318 sg_b316
  refine oX2 a0 [b14,b16,b19,b34,x34a,x34b,x34c,x34d,b47,x47a,x47b,x47c,x47d,b59,b288,b316] [0,k16,0,k34,0,0,0,kc34,k47,0,0,0,kc47,k59,k288,k316] [fE1_26 0 (vR 3),fE1_29 0 (vR 8),fE1_32 0 (vR 13)] [] [15,7,12,13] [15,14,3,1,7,8,12,13] 16 [oR 0,oI 1,oI 4,oR 1,oR 2,oI 3,oR 14,oI 0,oI 3,oI 3,oI 3,oI 0,oI 4] [vR 15] [(15,.boolean,2,[vI 0,vI 0]),(14,.boolean,4,[vI 0,vI 1,vI 1,vI 1]),(3,(.array .int),4,[vR 4,vR 5,vR 6,vR 7]),(1,.int,5,[vI 0,vI 16,vI 32,vI 48,vI 64]),(7,.int,4,[vI 0,vI 0,vI 0,vI 0]),(8,(.array .int),4,[vR 9,vR 10,vR 11,vR 12]),(12,.int,4,[vI 0,vI 0,vI 0,vI 0]),(13,.int,4,[vI 48,vI 48,vI 48,vI 0])] 132 [oR 0,oI 1,oI 4,oR 1,oR 2,oI 4,oR 14,oI 4,oR 15,oI 2,oI 2,oI 0,oI 4] [vR 2,vI 4] [(15,[vI 1,vI 0]),(7,[vI 32,vI 16,vI 0,vI 48]),(12,[vI 16,vI 16,vI 16,vI 16]),(13,[vI 48,vI 48,vI 48,vI 48])] tt hZ hown X316 N315 e316 (oA (ow92 hw) (oA (ow94 hw) (oA (ow96 hw) trivial))) trivial (oA G358 (oA G359 (oA G360 trivial))) (oA V_b316 (oA (V315_1.ext E316) (oA G324 (oA G331 (oA G340 (oA G345 (oA G353 (oA G357 trivial)))))))) (Or.inr (oA l17 (oA l82 (oA l113 (oA l114 (oA l115 (oA l116 (oA l117 (oA l118 (oA l119 (oA l120 (oA l121 (oA l122 (oA l123 (oA l361 (oA l362 trivial)))))))))))))))) (oA n_b316 (oA n_x34d (oA n_x47d (oA n_b59 trivial)))) rfl rfl (by decide +kernel) 303 (by decide +kernel) fun T363 h363 _ X363 N363 e363 K363 q363 M363=>?_
  have Kq363:Keep h316 h363 [b316,x34d,x47d,b59]:=K363
  have KK363:Keep h0 h363 [b14]:=Keep.trans K316 Kq363 (allS (Or.inr sz_b316) (allS (Or.inr sz_x34d) (allS (Or.inr sz_x47d) (allS (Or.inr sz_b59) all0))))
  obtain ⟨v363_0,-,-,-,v363_4,-,v363_6,v363_7,-⟩:=M363
  have V363_0:Arv Z h363 b316 k316 .boolean 2 [vI 1,vI 0] (vI 0):=v363_0
  have V363_4:Arv Z h363 x34d kc34 .int 4 own_ls16 (vI 0):=v363_4
  have V363_6:Arv Z h363 x47d kc47 .int 4 own_ls7 (vI 0):=v363_6
  have V363_7:Arv Z h363 b59 k59 .int 4 own_ls17 (vI 0):=v363_7
  refine oV 132 #[oR b14,oI 1,oI 4,oR b16,oR b19,oI 4,oR b288,oI 4,oR b316,oI 2,oI 2,oI 0,oI 4] [vR b19,vI 4] ?_
  have c364:=oT c283 m290
  have q365:=oL u25 (oT c364 sg_b288)
  have q366:=oL u25 (oT c127 sg_x47d)
  have q367:=oL u25 (oT c112 sg_x34d)
  have c368:=oT c364 m319
  have q369:=oL u25 (oT c368 sg_b316)
  have G370:=((((G285.ext E288).keep Kq315 (ninS q365 nin0)).ext E316).keep Kq363 (ninS q369 (ninS q367 (ninS q366 (ninS q131 nin0)))))
  refine own_cI X363 hx hZ hown e363 (ow82 hw) (ow83 hw) (mvT hZ (ow84 hw)) (ow85 hw) (ow86 hw) (ow87 hw) (ow88 hw) (ow54 hw) (ow13 hw) (ow89 hw) ((((G286.ext E288).keep Kq315).ext E316).keep Kq363) (y:=mn11) (z:=mn10) (argsL:=[]) (rest:=[vI 4]) (W:=1) hml.symm (hb hby d1_132) (lenOf pd0 rfl) rfl (by decide) (rm12a94 l Z a0 hw [] b19 h363 n0 (oT (oT Zs317 E316.1) Kq363.1) G370) fun _ T371 _ X371 hQ371=>?_
  obtain ⟨rfl,N371q,hh371⟩:=hQ371
  have N371:=Fr.app N363 N371q
  obtain ⟨_,X371,N371⟩:=own_hide X371 N371
  refine oV 137 #[oR b14,oI 1,oI 4,oR b16,oR b19,oI 4,oR b288,oI 4,oR b316,oI 2,oI 2,oI 0,oI 4] [vI 4,vI 4] ?_
  refine oG X371 tt 3 343 #[oR b14,oI 1,oI 4,oR b16,oR b19,oI 4,oR b288,oI 4,oR b316,oI 2,oI 2,oI 0,oI 4] [vR b19,vR b14] rfl ?_
  refine own_cI X371 hx hZ hown hh371 (ow82 hw) (ow83 hw) (mvT hZ (ow84 hw)) (ow85 hw) (ow86 hw) (ow87 hw) (ow88 hw) (ow54 hw) (ow13 hw) (ow89 hw) ((((G286.ext E288).keep Kq315).ext E316).keep Kq363) (y:=mn11) (z:=mn10) (argsL:=[]) (rest:=[vR b14]) (W:=1) hml.symm (hb hby d1_343) (lenOf pd0 rfl) rfl (by decide) (rm12a94 l Z a0 hw [] b19 h363 n0 (oT (oT Zs317 E316.1) Kq363.1) G370) fun _ T372 _ X372 hQ372=>?_
  obtain ⟨rfl,N372q,hh372⟩:=hQ372
  have N372:=Fr.app N371 N372q
  obtain ⟨_,X372,N372⟩:=own_hide X372 N372
  refine oV 348 #[oR b14,oI 1,oI 4,oR b16,oR b19,oI 4,oR b288,oI 4,oR b316,oI 2,oI 2,oI 0,oI 4] [vI 4,vR b14] ?_
  obtain ⟨T373,h373,k373,X373,e373,E373,A373,EA373,O373,st373⟩:=newRA X372 hx hZ (C:="[J") (ty:=.long) hown (by decide +kernel) (ow120 hw) (ow121 hw) hh372 (g:=(mkF m 348 #[oR b14,oI 1,oI 4,oR b16,oR b19,oI 4,oR b288,oI 4,oR b316,oI 2,oI 2,oI 0,oI 4] [vI 4,vR b14])) rfl (hb hby d1_348) rfl (by decide) (cap:=4) (by decide) (by decide) (by decide) (by decide) (ad:="[[J") (by decide +kernel)
  obtain ⟨b373,g_b373⟩:∃ z,z = h363.size:=⟨_,rfl⟩
  have sg_b373:h363.size≤b373:=Nat.le_of_eq g_b373.symm
  rw [← g_b373] at A373 EA373 st373
  have n_b373:=oT (oT (oT Zs317 E316.1) Kq363.1) sg_b373
  have sz_b373:=oT KK363.1 sg_b373
  have u374:=(oW V_b316.lt Kq363.1)
  have m375:h315.size≤h363.size:=(oT (oT (Nat.le_refl _) E316.1) Kq363.1)
  have K373:Keep h0 h373 [b14]:=KK363.ext E373
  have V_b373:Arv Z h373 b373 k373 (.array .long) 4 own_ls18 .null:=(Arv.new A373 (by decide)).pad (pad_rep [] .null 4)
  refine oJ 351 #[oR b14,oI 1,oI 4,oR b16,oR b19,oI 4,oR b288,oI 4,oR b316,oI 2,oI 2,oI 0,oI 4] [vR b373,vR b14] st373 ?_
  have G376:=((((((((G66.wr W68).ext E71).keep K182).keep K299).keep Kq315).ext E316).keep Kq363).ext E373)
  have G377:=(((((((((((((PF6.keep K41 (ninS (oL PE2.lt sz_b16) (ninS (oL PE2.lt sz_b19) (ninS (oL PE2.lt sz_b24) nin0)))).other W43 (Or.inr (sn_123_93 hw))).ext E47).other W55 (Or.inr (sn_123_95 hw))).ext E59).other W68 (Or.inr (sn_123_97 hw))).ext E71).keep K182 (ninS (oL PE2.lt sz_b71) (ninS (oL PE2.lt sz_b88) (ninS (oL PE2.lt sz_x34a) (ninS (oL PE2.lt sz_x47a) (ninS (oL PE2.lt sz_b59) (ninS (oL PE2.lt sz_b139) nin0))))))).keep K299 (ninS (oL PE2.lt sz_b161) (ninS (oL PE2.lt sz_x34b) (ninS (oL PE2.lt sz_x47b) (ninS (oL PE2.lt sz_b59) (ninS (oL PE2.lt sz_b210) (ninS (oL PE2.lt sz_b236) (ninS (oL PE2.lt sz_x34c) (ninS (oL PE2.lt sz_x47c) nin0))))))))).keep Kq315 (ninS (oL PE2.lt sz_b288) nin0)).ext E316).keep Kq363 (ninS (oL PE2.lt sz_b316) (ninS (oL PE2.lt sz_x34d) (ninS (oL PE2.lt sz_x47d) (ninS (oL PE2.lt sz_b59) nin0))))).ext E373)
  obtain ⟨T378,h378,X378,e378,W378,st378⟩:=putF X373 hx hZ hown (host:="") (Or.inl (ow122 hw)) Via.refl e373 G377 G376 (Or.inr ⟨(ow123 hw),rfl,hnm⟩) (ow2 hw) (ty:=(.array (.array .long))) (by decide) rfl rfl (g:=(mkF m 351 #[oR b14,oI 1,oI 4,oR b16,oR b19,oI 4,oR b288,oI 4,oR b316,oI 2,oI 2,oI 0,oI 4] [vR b373,vR b14])) rfl rfl (hb hby d1_351)
  have Fw378:=Fld.same W378 G377
  have K378:Keep h0 h378 [b14]:=K373.wr W378 oI0
  have N378:=Fr.snoc X378 N372 n_b14
  refine oH st378 X378 tt 4 361 #[oR b14,oI 1,oI 4,oR b16,oR b19,oI 0,oR b288,oI 4,oR b316,oI 2,oI 2,oI 0,oI 4] [vR b19,vI 0] rfl ?_
  have G379:=((G370.ext E373).other W378 (Or.inl (oM PE2.lt sz_b19)))
  have G380:=((((((G286.ext E288).keep Kq315).ext E316).keep Kq363).ext E373).wr W378)
  refine own_cI X378 hx hZ hown e378 (ow82 hw) (ow83 hw) (mvT hZ (ow84 hw)) (ow85 hw) (ow86 hw) (ow87 hw) (ow88 hw) (ow54 hw) (ow13 hw) (ow89 hw) G380 (y:=mn11) (z:=mn10) (argsL:=[]) (rest:=[vI 0]) (W:=1) hml.symm (hb hby d1_361) (lenOf pd0 rfl) rfl (by decide) (rm12a94 l Z a0 hw [] b19 h378 n0 (oT (oT (oT (oT Zs317 E316.1) Kq363.1) E373.1) (Keep.of_wr W378).1) G379) fun _ T381 _ X381 hQ381=>?_
  obtain ⟨rfl,N381q,hh381⟩:=hQ381
  have N381:=Fr.app N378 N381q
  obtain ⟨_,X381,N381⟩:=own_hide X381 N381
  refine oV 366 #[oR b14,oI 1,oI 4,oR b16,oR b19,oI 0,oR b288,oI 4,oR b316,oI 2,oI 2,oI 0,oI 4] [vI 4,vI 0] ?_
  refine oX2 a0 [b14,b16,b19,b288,b316,b373] [0,0,0,0,0,0] [fE1_43 0 (vR 5)] [] [] [] 6 [oR 0,oI 1,oI 4,oR 1,oR 2,oI 0,oR 3,oI 4,oR 4,oI 2,oI 2,oI 0,oI 4] [vI 4,vI 0] [] 377 [oR 0,oI 1,oI 4,oR 1,oR 2,oI 0,oR 3,oI 4,oR 4,oI 2,oI 2,oI 0,oI 4] [vI 0,vI 0,vR 5] [] tt hZ hown X381 N381 hh381 (oA (ow122 hw) trivial) trivial (oA Fw378 trivial) trivial (Or.inl rfl) trivial rfl rfl (by decide +kernel) 5 (by decide +kernel) fun T382 h382 _ X382 N382 e382 K382 q382 M382=>?_
  have e382:=e382.trans (q382 rfl)
  refine oV 377 #[oR b14,oI 1,oI 4,oR b16,oR b19,oI 0,oR b288,oI 4,oR b316,oI 2,oI 2,oI 0,oI 4] [vI 0,vI 0,vR b373] ?_
  obtain ⟨T383,h383,k383,X383,e383,E383,A383,EA383,st383⟩:=newPE (aty:=.long) X382 hx hZ (ow124 hw) e382 (g:=(mkF m 377 #[oR b14,oI 1,oI 4,oR b16,oR b19,oI 0,oR b288,oI 4,oR b316,oI 2,oI 2,oI 0,oI 4] [vI 0,vI 0,vR b373])) rfl (hb hby d1_377) rfl (by decide) (cap:=0) (by decide) (by decide) (by decide) (by decide) (ad:="[J") (by decide +kernel)
  obtain ⟨b383,g_b383⟩:∃ z,z = h378.size:=⟨_,rfl⟩
  have sg_b383:h378.size≤b383:=Nat.le_of_eq g_b383.symm
  rw [← g_b383] at A383 EA383 st383
  have n_b383:=oT (oT (oT (oT (oT Zs317 E316.1) Kq363.1) E373.1) (Keep.of_wr W378).1) sg_b383
  have sz_b383:=oT K378.1 sg_b383
  have u384:=(oW V_b373.lt (Keep.of_wr W378).1)
  have m385:h363.size≤h378.size:=(oT (oT (Nat.le_refl _) E373.1) (Keep.of_wr W378).1)
  have K383:Keep h0 h383 [b14]:=K378.ext E383
  have V_b383:Arv Z h383 b383 k383 .long 0 [] (.long (0:Int64)):=Arv.new A383 (by decide)
  refine oJ 379 #[oR b14,oI 1,oI 4,oR b16,oR b19,oI 0,oR b288,oI 4,oR b316,oI 2,oI 2,oI 0,oI 4] [vR b383,vI 0,vR b373] st383 ?_
  obtain ⟨T386,h386,X386,e386,W386,V386,st386⟩:=own_stR X383 hx hZ e383 ((V_b373.other W378 (oM PE2.lt sz_b373)).ext E383) (j:=(0:Int32)) ⟨by decide,by decide⟩ rfl rfl (fun cl Ar q=>Sto.ofVA Ar q O373 (Ins.self EA383)) 0 rfl (Nat.le_of_ble_eq_true rfl) (g:=(mkF m 379 #[oR b14,oI 1,oI 4,oR b16,oR b19,oI 0,oR b288,oI 4,oR b316,oI 2,oI 2,oI 0,oI 4] [vR b383,vI 0,vR b373])) rfl rfl (hb hby d1_379)
  have K386:Keep h0 h386 [b14]:=K383.wr W386 (Or.inr sz_b373)
  have V386s:Arv Z h386 b373 k373 (.array .long) 4 [vR b383,.null,.null,.null] .null:=V386
  have N386:=Fr.snoc X386 N382 n_b373
  refine oH st386 X386 tt 9 361 #[oR b14,oI 1,oI 4,oR b16,oR b19,oI 1,oI 0,oI 4,oR b316,oI 2,oI 2,oI 0,oI 4] [vR b19,vI 1] rfl ?_
  have c387:=oT c368 m375
  have q388:=oL u25 (oT c387 sg_b373)
  have Zs389:n0≤h386.size:=(oT (oT (oT (oT (oT (oT Zs317 E316.1) Kq363.1) E373.1) (Keep.of_wr W378).1) E383.1) (Keep.of_wr W386).1)
  refine own_cI X386 hx hZ hown e386 (ow82 hw) (ow83 hw) (mvT hZ (ow84 hw)) (ow85 hw) (ow86 hw) (ow87 hw) (ow88 hw) (ow54 hw) (ow13 hw) (ow89 hw) ((G380.ext E383).wr W386) (y:=mn11) (z:=mn10) (argsL:=[]) (rest:=[vI 1]) (W:=1) hml.symm (hb hby d1_361) (lenOf pd0 rfl) rfl (by decide) (rm12a94 l Z a0 hw [] b19 h386 n0 Zs389 ((G379.ext E383).other W386 (Or.inl q388))) fun _ T390 _ X390 hQ390=>?_
  obtain ⟨rfl,N390q,hh390⟩:=hQ390
  have N390:=Fr.app N386 N390q
  obtain ⟨_,X390,N390⟩:=own_hide X390 N390
  refine oV 366 #[oR b14,oI 1,oI 4,oR b16,oR b19,oI 1,oI 0,oI 4,oR b316,oI 2,oI 2,oI 0,oI 4] [vI 4,vI 1] ?_
  have G391:=((Fw378.ext E383).other W386 (Or.inl (oL PE2.lt sz_b373)))
  refine oX2 a0 [b14,b16,b19,b316,b373] [0,0,0,0,0] [fE1_43 0 (vR 4)] [] [] [] 5 [oR 0,oI 1,oI 4,oR 1,oR 2,oI 1,oI 0,oI 4,oR 3,oI 2,oI 2,oI 0,oI 4] [vI 4,vI 1] [] 377 [oR 0,oI 1,oI 4,oR 1,oR 2,oI 1,oI 0,oI 4,oR 3,oI 2,oI 2,oI 0,oI 4] [vI 1,vI 1,vR 4] [] tt hZ hown X390 N390 hh390 (oA (ow122 hw) trivial) trivial (oA G391 trivial) trivial (Or.inl rfl) trivial rfl rfl (by decide +kernel) 5 (by decide +kernel) fun T392 h392 _ X392 N392 e392 K392 q392 M392=>?_
  have e392:=e392.trans (q392 rfl)
  refine oV 377 #[oR b14,oI 1,oI 4,oR b16,oR b19,oI 1,oI 0,oI 4,oR b316,oI 2,oI 2,oI 0,oI 4] [vI 1,vI 1,vR b373] ?_
  obtain ⟨T393,h393,k393,X393,e393,E393,A393,EA393,st393⟩:=newPE (aty:=.long) X392 hx hZ (ow124 hw) e392 (g:=(mkF m 377 #[oR b14,oI 1,oI 4,oR b16,oR b19,oI 1,oI 0,oI 4,oR b316,oI 2,oI 2,oI 0,oI 4] [vI 1,vI 1,vR b373])) rfl (hb hby d1_377) rfl (by decide) (cap:=1) (by decide) (by decide) (by decide) (by decide) (ad:="[J") (by decide +kernel)
  obtain ⟨b393,g_b393⟩:∃ z,z = h386.size:=⟨_,rfl⟩
  have sg_b393:h386.size≤b393:=Nat.le_of_eq g_b393.symm
  rw [← g_b393] at A393 EA393 st393
  have n_b393:=oT Zs389 sg_b393
  have sz_b393:=oT K386.1 sg_b393
  have u394:=(oW V_b383.lt (Keep.of_wr W386).1)
  have m395:h378.size≤h386.size:=(oT (oT (Nat.le_refl _) E383.1) (Keep.of_wr W386).1)
  have K393:Keep h0 h393 [b14]:=K386.ext E393
  have V_b393:Arv Z h393 b393 k393 .long 1 [(.long (0:Int64))] (.long (0:Int64)):=(Arv.new A393 (by decide)).pad (pad_rep [] (.long (0:Int64)) 1)
  refine oJ 379 #[oR b14,oI 1,oI 4,oR b16,oR b19,oI 1,oI 0,oI 4,oR b316,oI 2,oI 2,oI 0,oI 4] [vR b393,vI 1,vR b373] st393 ?_
  obtain ⟨T396,h396,X396,e396,W396,V396,st396⟩:=own_stR X393 hx hZ e393 (V386s.ext E393) (j:=(1:Int32)) ⟨by decide,by decide⟩ rfl rfl (fun cl Ar q=>Sto.ofVA Ar q O373 (Ins.self EA393)) 1 rfl (Nat.le_of_ble_eq_true rfl) (g:=(mkF m 379 #[oR b14,oI 1,oI 4,oR b16,oR b19,oI 1,oI 0,oI 4,oR b316,oI 2,oI 2,oI 0,oI 4] [vR b393,vI 1,vR b373])) rfl rfl (hb hby d1_379)
  have K396:Keep h0 h396 [b14]:=K393.wr W396 (Or.inr sz_b373)
  have V396s:Arv Z h396 b373 k373 (.array .long) 4 [vR b383,vR b393,.null,.null] .null:=V396
  have N396:=Fr.snoc X396 N392 n_b373
  refine oJ 380 #[oR b14,oI 1,oI 4,oR b16,oR b19,oI 1,oI 0,oI 4,oR b316,oI 2,oI 2,oI 0,oI 4] [] st396 ?_
  have G397:=((G391.ext E393).other W396 (Or.inl (oL PE2.lt sz_b373)))
  refine oX2 a0 [b14,b16,b19,b316,b373,b383,b393] [0,0,0,0,k373,0,0] [fE1_43 0 (vR 4)] [] [] [4] 7 [oR 0,oI 1,oI 4,oR 1,oR 2,oI 1,oI 0,oI 4,oR 3,oI 2,oI 2,oI 0,oI 4] [] [(4,(.array .long),4,[vR 5,vR 6,.null,.null])] 405 [oR 0,oI 1,oI 4,oR 1,oR 2,oI 1,oI 0,oI 4,oR 3,oI 2,oI 2,oI 0,oI 4] [vI 0,vR 0,vI 1,vR 0,vI 0,vR 6] [] tt hZ hown X396 N396 e396 (oA (ow122 hw) trivial) trivial (oA G397 trivial) (oA V396s trivial) (Or.inl rfl) trivial rfl rfl (by decide +kernel) 14 (by decide +kernel) fun T398 h398 _ X398 N398 e398 K398 q398 M398=>?_
  have e398:=e398.trans (q398 rfl)
  refine oV 405 #[oR b14,oI 1,oI 4,oR b16,oR b19,oI 1,oI 0,oI 4,oR b316,oI 2,oI 2,oI 0,oI 4] [vI 0,vR b14,vI 1,vR b14,vI 0,vR b393] ?_
  have G399:=(((((((G358.keep Kq363 (ninS (oL PE2.lt sz_b316) (ninS (oL PE2.lt sz_x34d) (ninS (oL PE2.lt sz_x47d) (ninS (oL PE2.lt sz_b59) nin0))))).ext E373).other W378 (Or.inr (sn_93_123 hw))).ext E383).other W386 (Or.inl (oL PE2.lt sz_b373))).ext E393).other W396 (Or.inl (oL PE2.lt sz_b373)))
  have G400:=(((((((G359.keep Kq363 (ninS (oL PE2.lt sz_b316) (ninS (oL PE2.lt sz_x34d) (ninS (oL PE2.lt sz_x47d) (ninS (oL PE2.lt sz_b59) nin0))))).ext E373).other W378 (Or.inr (sn_95_123 hw))).ext E383).other W386 (Or.inl (oL PE2.lt sz_b373))).ext E393).other W396 (Or.inl (oL PE2.lt sz_b373)))
  have G401:=(((((((G360.keep Kq363 (ninS (oL PE2.lt sz_b316) (ninS (oL PE2.lt sz_x34d) (ninS (oL PE2.lt sz_x47d) (ninS (oL PE2.lt sz_b59) nin0))))).ext E373).other W378 (Or.inr (sn_97_123 hw))).ext E383).other W386 (Or.inl (oL PE2.lt sz_b373))).ext E393).other W396 (Or.inl (oL PE2.lt sz_b373)))
  have c402:=oT c322 m319
  have q403:=oL u48 (oT c402 sg_b316)
  have c404:=oT c402 m375
  have q405:=oL u48 (oT c404 sg_b373)
  have G406:=(((((((G324.keep Kq363 (ninS q403 (ninS (Ne.symm nn_x34d_b34) (ninS (oL u48 sg_x47d) (ninS q164 nin0))))).ext E373).other W378 (oM PE2.lt sz_b34)).ext E383).other W386 q405).ext E393).other W396 q405)
  have q407:=oL u49 (oT c167 sg_b139)
  have q408:=oL u49 (oT m65 sg_b59)
  have q409:=oL u49 (oT c239 sg_b161)
  have q410:=oL u49 (oT c241 sg_b210)
  have q411:=oL u49 (oT c320 sg_b236)
  have q412:=oL u49 (oT c322 sg_b288)
  have q413:=oL u49 (oT c402 sg_b316)
  have q414:=oL u49 (oT c404 sg_b373)
  have K415:Keep _ h396 [b288,b316,x34d,x47d,b59,b14,b373]:=((((((Keep.trans ((Keep.trans (Keep.refl _ _) Kq315 (allS oI0 all0)).ext E316) Kq363 (allS oI1 (allS oI2 (allS oI3 (allS oI4 all0))))).ext E373).wr W378 oI5).ext E383).wr W386 oI6).ext E393).wr W396 oI6
  have G416:=(((((V126_4.ext E139).keep Kq160 (ninS q407 nin0)).ext E161).keep K299 (ninS q409 (ninS (Ne.symm nn_x34b_x34a) (ninS (oL u49 sg_x47b) (ninS q408 (ninS q410 (ninS q411 (ninS (Ne.symm nn_x34c_x34a) (ninS (oL u49 sg_x47c) nin0))))))))).keep K415 (ninS q412 (ninS q413 (ninS (Ne.symm nn_x34d_x34a) (ninS (oL u49 sg_x47d) (ninS q408 (ninS (oM PE2.lt sz_x34a) (ninS q414 nin0))))))))
  have c417:=oT c343 m319
  have q418:=oL u60 (oT c417 sg_b316)
  have c419:=oT c417 m375
  have q420:=oL u60 (oT c419 sg_b373)
  have G421:=(((((((G345.keep Kq363 (ninS q418 (ninS (oM u52 sg_b47) (ninS (Ne.symm nn_x47d_b47) (ninS (oL u60 sg_b59) nin0))))).ext E373).other W378 (oM PE2.lt sz_b47)).ext E383).other W386 q420).ext E393).other W396 q420)
  have q422:=oL u61 (oT c186 sg_b139)
  have q423:=oL u61 (oT c258 sg_b161)
  have q424:=oL u61 (oT c260 sg_b210)
  have q425:=oL u61 (oT c341 sg_b236)
  have q426:=oL u61 (oT c343 sg_b288)
  have q427:=oL u61 (oT c417 sg_b316)
  have q428:=oL u61 (oT c419 sg_b373)
  have G429:=(((((V126_6.ext E139).keep Kq160 (ninS q422 nin0)).ext E161).keep K299 (ninS q423 (ninS (oM u50 sg_x47a) (ninS (Ne.symm nn_x47b_x47a) (ninS (oL u61 sg_b59) (ninS q424 (ninS q425 (ninS (oM u51 sg_x47a) (ninS (Ne.symm nn_x47c_x47a) nin0))))))))).keep K415 (ninS q426 (ninS q427 (ninS (oM u52 sg_x47a) (ninS (Ne.symm nn_x47d_x47a) (ninS (oL u61 sg_b59) (ninS (oM PE2.lt sz_x47a) (ninS q428 nin0))))))))
  have c430:=oT c355 m319
  have c431:=oT c430 m375
  have q432:=oL u72 (oT c431 sg_b373)
  have G433:=((((((V363_7.ext E373).other W378 (oM PE2.lt sz_b59)).ext E383).other W386 q432).ext E393).other W396 q432)
  have G434:=(((((G376.wr W378).ext E383).wr W386).ext E393).wr W396)
  refine own_cP X398 hx hZ hown e398 (ow136 hw) (ow137 hw) (own_seli (mvT hZ (ow2 hw)) (Cond.privateMethod_at (mvP hZ (ow138 hw) (args:=#[]))) (mvT hZ (ow137 hw)) (by decide)) (ow138 hw) (ow3 hw) (ow139 hw) G434 (y:=mn20) (argsL:=[vI 0]) (rest:=[vI 1,vR b14,vI 0,vR b393]) (W:=4) hml.symm (hb hby d1_405) (lenOf pd4 rfl) rfl (by decide) (rm19a111 l Z a0 hw [] b14 b34 b47 b59 k34 x34a x34b x34c x34d kc34 k47 x47a x47b x47c x47d kc47 k59 h396 n0 (oT (oT Zs389 E393.1) (Keep.of_wr W396).1) G399 G400 G401 G406 G416 G421 G429 G433) fun _ T435 _ X435 hQ435=>?_
  obtain ⟨rfl,N435q,hh435⟩:=hQ435
  have N435:=Fr.app N398 N435q
  obtain ⟨_,X435,N435⟩:=own_hide X435 N435
  refine oV 408 #[oR b14,oI 1,oI 4,oR b16,oR b19,oI 1,oI 0,oI 4,oR b316,oI 2,oI 2,oI 0,oI 4] [(.long (-65536:Int64)),vI 1,vR b14,vI 0,vR b393] ?_
  have q436:=oL u50 (oT c241 sg_b210)
  have q437:=oL u50 (oT c320 sg_b236)
  have q438:=oL u50 (oT c322 sg_b288)
  have q439:=oL u50 (oT c402 sg_b316)
  have q440:=oL u50 (oT c404 sg_b373)
  have G441:=((((((V201_4.ext E210).keep Kq235 (ninS q436 nin0)).ext E236).keep Kq278 (ninS q437 (ninS (Ne.symm nn_x34c_x34b) (ninS (oL u50 sg_x47c) (ninS q179 nin0))))).ext E288).keep K415 (ninS q438 (ninS q439 (ninS (Ne.symm nn_x34d_x34b) (ninS (oL u50 sg_x47d) (ninS q179 (ninS (oM PE2.lt sz_x34b) (ninS q440 nin0))))))))
  have q442:=oL u62 (oT c260 sg_b210)
  have q443:=oL u62 (oT c341 sg_b236)
  have q444:=oL u62 (oT c343 sg_b288)
  have q445:=oL u62 (oT c417 sg_b316)
  have q446:=oL u62 (oT c419 sg_b373)
  have G447:=((((((V201_6.ext E210).keep Kq235 (ninS q442 nin0)).ext E236).keep Kq278 (ninS q443 (ninS (oM u51 sg_x47b) (ninS (Ne.symm nn_x47c_x47b) (ninS (oL u62 sg_b59) nin0))))).ext E288).keep K415 (ninS q444 (ninS q445 (ninS (oM u52 sg_x47b) (ninS (Ne.symm nn_x47d_x47b) (ninS (oL u62 sg_b59) (ninS (oM PE2.lt sz_x47b) (ninS q446 nin0))))))))
  refine own_cV X435 hx hZ hown hh435 (ow140 hw) (ow127 hw) (notFace_of_selects (args:=#[]) (mvT hZ (ow129 hw))) (ow129 hw) (ow128 hw) (ow3 hw) (ow130 hw) G434 (y:=mn18) (z:=mn18) (argsL:=[vI 1,(.long (-65536:Int64))]) (rest:=[vI 0,vR b393]) (W:=2) hml.symm (hb hby d1_408) (lenOf pd12 rfl) rfl (by decide) (rm17a112 l Z a0 hw [] b14 (-65536:Int64) b34 b47 k34 x34a x34b x34c x34d kc34 k47 x47a x47b x47c x47d kc47 h396 n0 (oT (oT Zs389 E393.1) (Keep.of_wr W396).1) G399 G400 G406 G441 G421 G447) fun _ T448 _ X448 hQ448=>?_
  obtain ⟨rfl,N448q,hh448⟩:=hQ448
  have N448:=Fr.app N435 N448q
  obtain ⟨_,X448,N448⟩:=own_hide X448 N448
  refine oV 411 #[oR b14,oI 1,oI 4,oR b16,oR b19,oI 1,oI 0,oI 4,oR b316,oI 2,oI 2,oI 0,oI 4] [(.long (-4294901761:Int64)),vI 0,vR b393] ?_
  have q449:=oM u384 (oT m395 sg_b393)
  obtain ⟨T450,h450,X450,e450,W450,V450,st450⟩:=own_stJ X448 hx hZ hh448 (V_b393.other W396 q449) (j:=(0:Int32)) ⟨by decide,by decide⟩ 0 rfl (Nat.le_of_ble_eq_true rfl) (g:=(mkF m 411 #[oR b14,oI 1,oI 4,oR b16,oR b19,oI 1,oI 0,oI 4,oR b316,oI 2,oI 2,oI 0,oI 4] [(.long (-4294901761:Int64)),vI 0,vR b393])) rfl rfl (hb hby d1_411)
  have K450:Keep h0 h450 [b14]:=K396.wr W450 (Or.inr sz_b393)
  have V450s:Arv Z h450 b393 k393 .long 1 [(.long (-4294901761:Int64))] (.long (0:Int64)):=V450
  have N450:=Fr.snoc X450 N448 n_b393
  refine oH st450 X450 tt 9 361 #[oR b14,oI 1,oI 4,oR b16,oR b19,oI 2,oI 1,oI 4,oR b316,oI 2,oI 2,oI 0,oI 4] [vR b19,vI 2] rfl ?_
  have c451:=oT c387 m385
  have c452:=oT c451 m395
  have q453:=oL u25 (oT c452 sg_b393)
  have G454:=(((((G379.ext E383).other W386 (Or.inl q388)).ext E393).other W396 (Or.inl q388)).other W450 (Or.inl q453))
  have G455:=(((((G380.ext E383).wr W386).ext E393).wr W396).wr W450)
  refine own_cI X450 hx hZ hown e450 (ow82 hw) (ow83 hw) (mvT hZ (ow84 hw)) (ow85 hw) (ow86 hw) (ow87 hw) (ow88 hw) (ow54 hw) (ow13 hw) (ow89 hw) G455 (y:=mn11) (z:=mn10) (argsL:=[]) (rest:=[vI 2]) (W:=1) hml.symm (hb hby d1_361) (lenOf pd0 rfl) rfl (by decide) (rm12a94 l Z a0 hw [] b19 h450 n0 (oT (oT (oT Zs389 E393.1) (Keep.of_wr W396).1) (Keep.of_wr W450).1) G454) fun _ T456 _ X456 hQ456=>?_
  obtain ⟨rfl,N456q,hh456⟩:=hQ456
  have N456:=Fr.app N450 N456q
  obtain ⟨_,X456,N456⟩:=own_hide X456 N456
  refine oV 366 #[oR b14,oI 1,oI 4,oR b16,oR b19,oI 2,oI 1,oI 4,oR b316,oI 2,oI 2,oI 0,oI 4] [vI 4,vI 2] ?_
  refine oX2 a0 [b14,b16,b19,b316,b373] [0,0,0,0,0] [fE1_43 0 (vR 4)] [] [] [] 5 [oR 0,oI 1,oI 4,oR 1,oR 2,oI 2,oI 1,oI 4,oR 3,oI 2,oI 2,oI 0,oI 4] [vI 4,vI 2] [] 377 [oR 0,oI 1,oI 4,oR 1,oR 2,oI 2,oI 1,oI 4,oR 3,oI 2,oI 2,oI 0,oI 4] [vI 2,vI 2,vR 4] [] tt hZ hown X456 N456 hh456 (oA (ow122 hw) trivial) trivial (oA (G397.other W450 (Or.inl (oL PE2.lt sz_b393))) trivial) trivial (Or.inl rfl) trivial rfl rfl (by decide +kernel) 5 (by decide +kernel) fun T457 h457 _ X457 N457 e457 K457 q457 M457=>?_
  have e457:=e457.trans (q457 rfl)
  refine oV 377 #[oR b14,oI 1,oI 4,oR b16,oR b19,oI 2,oI 1,oI 4,oR b316,oI 2,oI 2,oI 0,oI 4] [vI 2,vI 2,vR b373] ?_
  obtain ⟨T458,h458,k458,X458,e458,E458,A458,EA458,st458⟩:=newPE (aty:=.long) X457 hx hZ (ow124 hw) e457 (g:=(mkF m 377 #[oR b14,oI 1,oI 4,oR b16,oR b19,oI 2,oI 1,oI 4,oR b316,oI 2,oI 2,oI 0,oI 4] [vI 2,vI 2,vR b373])) rfl (hb hby d1_377) rfl (by decide) (cap:=2) (by decide) (by decide) (by decide) (by decide) (ad:="[J") (by decide +kernel)
  obtain ⟨b458,g_b458⟩:∃ z,z = h450.size:=⟨_,rfl⟩
  have sg_b458:h450.size≤b458:=Nat.le_of_eq g_b458.symm
  rw [← g_b458] at A458 EA458 st458
  have n_b458:=oT (oT (oT (oT Zs389 E393.1) (Keep.of_wr W396).1) (Keep.of_wr W450).1) sg_b458
  have sz_b458:=oT K450.1 sg_b458
  have u459:=(oW (oW V_b393.lt (Keep.of_wr W396).1) (Keep.of_wr W450).1)
  have m460:h386.size≤h450.size:=(oT (oT (oT (Nat.le_refl _) E393.1) (Keep.of_wr W396).1) (Keep.of_wr W450).1)
  have K458:Keep h0 h458 [b14]:=K450.ext E458
  have V_b458:Arv Z h458 b458 k458 .long 2 [(.long (0:Int64)),(.long (0:Int64))] (.long (0:Int64)):=(Arv.new A458 (by decide)).pad (pad_rep [] (.long (0:Int64)) 2)
  refine oJ 379 #[oR b14,oI 1,oI 4,oR b16,oR b19,oI 2,oI 1,oI 4,oR b316,oI 2,oI 2,oI 0,oI 4] [vR b458,vI 2,vR b373] st458 ?_
  obtain ⟨T461,h461,X461,e461,W461,V461,st461⟩:=own_stR X458 hx hZ e458 ((V396s.other W450 (Ne.symm q449)).ext E458) (j:=(2:Int32)) ⟨by decide,by decide⟩ rfl rfl (fun cl Ar q=>Sto.ofVA Ar q O373 (Ins.self EA458)) 2 rfl (Nat.le_of_ble_eq_true rfl) (g:=(mkF m 379 #[oR b14,oI 1,oI 4,oR b16,oR b19,oI 2,oI 1,oI 4,oR b316,oI 2,oI 2,oI 0,oI 4] [vR b458,vI 2,vR b373])) rfl rfl (hb hby d1_379)
  have K461:Keep h0 h461 [b14]:=K458.wr W461 (Or.inr sz_b373)
  have V461s:Arv Z h461 b373 k373 (.array .long) 4 [vR b383,vR b393,vR b458,.null] .null:=V461
  have N461:=Fr.snoc X461 N457 n_b373
  refine oJ 380 #[oR b14,oI 1,oI 4,oR b16,oR b19,oI 2,oI 1,oI 4,oR b316,oI 2,oI 2,oI 0,oI 4] [] st461 ?_
  have G462:=(((G397.other W450 (Or.inl (oL PE2.lt sz_b393))).ext E458).other W461 (Or.inl (oL PE2.lt sz_b373)))
  refine oX2 a0 [b14,b16,b19,b316,b373,b383,b393,b458] [0,0,0,0,k373,0,0,0] [fE1_43 0 (vR 4)] [] [] [4] 8 [oR 0,oI 1,oI 4,oR 1,oR 2,oI 2,oI 1,oI 4,oR 3,oI 2,oI 2,oI 0,oI 4] [] [(4,(.array .long),4,[vR 5,vR 6,vR 7,.null])] 405 [oR 0,oI 1,oI 4,oR 1,oR 2,oI 2,oI 0,oI 4,oR 3,oI 2,oI 2,oI 0,oI 4] [vI 0,vR 0,vI 2,vR 0,vI 0,vR 7] [] tt hZ hown X461 N461 e461 (oA (ow122 hw) trivial) trivial (oA G462 trivial) (oA V461s trivial) (Or.inl rfl) trivial rfl rfl (by decide +kernel) 14 (by decide +kernel) fun T463 h463 _ X463 N463 e463 K463 q463 M463=>?_
  have e463:=e463.trans (q463 rfl)
  refine oV 405 #[oR b14,oI 1,oI 4,oR b16,oR b19,oI 2,oI 0,oI 4,oR b316,oI 2,oI 2,oI 0,oI 4] [vI 0,vR b14,vI 2,vR b14,vI 0,vR b458] ?_
  have G464:=(((G399.other W450 (Or.inl (oL PE2.lt sz_b393))).ext E458).other W461 (Or.inl (oL PE2.lt sz_b373)))
  have G465:=(((G400.other W450 (Or.inl (oL PE2.lt sz_b393))).ext E458).other W461 (Or.inl (oL PE2.lt sz_b373)))
  have G466:=(((G401.other W450 (Or.inl (oL PE2.lt sz_b393))).ext E458).other W461 (Or.inl (oL PE2.lt sz_b373)))
  have c467:=oT c404 m385
  have c468:=oT c467 m395
  have q469:=oL u48 (oT c468 sg_b393)
  have q470:=oL u49 (oT c468 sg_b393)
  have c471:=oT c419 m385
  have c472:=oT c471 m395
  have q473:=oL u60 (oT c472 sg_b393)
  have q474:=oL u61 (oT c472 sg_b393)
  have c475:=oT c431 m385
  have c476:=oT c475 m395
  have q477:=oL u72 (oT c476 sg_b393)
  have Zs478:n0≤h461.size:=(oT (oT (oT (oT (oT Zs389 E393.1) (Keep.of_wr W396).1) (Keep.of_wr W450).1) E458.1) (Keep.of_wr W461).1)
  refine own_cP X463 hx hZ hown e463 (ow136 hw) (ow137 hw) (own_seli (mvT hZ (ow2 hw)) (Cond.privateMethod_at (mvP hZ (ow138 hw) (args:=#[]))) (mvT hZ (ow137 hw)) (by decide)) (ow138 hw) (ow3 hw) (ow139 hw) (((G434.wr W450).ext E458).wr W461) (y:=mn20) (argsL:=[vI 0]) (rest:=[vI 2,vR b14,vI 0,vR b458]) (W:=4) hml.symm (hb hby d1_405) (lenOf pd4 rfl) rfl (by decide) (rm19a111 l Z a0 hw [] b14 b34 b47 b59 k34 x34a x34b x34c x34d kc34 k47 x47a x47b x47c x47d kc47 k59 h461 n0 Zs478 G464 G465 G466 (((G406.other W450 q469).ext E458).other W461 q405) (((G416.other W450 q470).ext E458).other W461 q414) (((G421.other W450 q473).ext E458).other W461 q420) (((G429.other W450 q474).ext E458).other W461 q428) (((G433.other W450 q477).ext E458).other W461 q432)) fun _ T479 _ X479 hQ479=>?_
  obtain ⟨rfl,N479q,hh479⟩:=hQ479
  have N479:=Fr.app N463 N479q
  obtain ⟨_,X479,N479⟩:=own_hide X479 N479
  refine oV 408 #[oR b14,oI 1,oI 4,oR b16,oR b19,oI 2,oI 0,oI 4,oR b316,oI 2,oI 2,oI 0,oI 4] [(.long (-65536:Int64)),vI 2,vR b14,vI 0,vR b458] ?_
  have q480:=oL u51 (oT c322 sg_b288)
  have q481:=oL u51 (oT c402 sg_b316)
  have q482:=oL u51 (oT c404 sg_b373)
  have q483:=oL u51 (oT c468 sg_b393)
  have G484:=(((((V278_4.ext E288).keep K415 (ninS q480 (ninS q481 (ninS (Ne.symm nn_x34d_x34c) (ninS (oL u51 sg_x47d) (ninS q252 (ninS (oM PE2.lt sz_x34c) (ninS q482 nin0)))))))).other W450 q483).ext E458).other W461 q482)
  have q485:=oL u63 (oT c343 sg_b288)
  have q486:=oL u63 (oT c417 sg_b316)
  have q487:=oL u63 (oT c419 sg_b373)
  have q488:=oL u63 (oT c472 sg_b393)
  have G489:=(((((V278_6.ext E288).keep K415 (ninS q485 (ninS q486 (ninS (oM u52 sg_x47c) (ninS (Ne.symm nn_x47d_x47c) (ninS (oL u63 sg_b59) (ninS (oM PE2.lt sz_x47c) (ninS q487 nin0)))))))).other W450 q488).ext E458).other W461 q487)
  refine own_cV X479 hx hZ hown hh479 (ow140 hw) (ow127 hw) (notFace_of_selects (args:=#[]) (mvT hZ (ow129 hw))) (ow129 hw) (ow128 hw) (ow3 hw) (ow130 hw) (((G434.wr W450).ext E458).wr W461) (y:=mn18) (z:=mn18) (argsL:=[vI 2,(.long (-65536:Int64))]) (rest:=[vI 0,vR b458]) (W:=2) hml.symm (hb hby d1_408) (lenOf pd12 rfl) rfl (by decide) (rm17a113 l Z a0 hw [] b14 (-65536:Int64) b34 b47 k34 x34a x34b x34c x34d kc34 k47 x47a x47b x47c x47d kc47 h461 n0 Zs478 G464 G465 (((G406.other W450 q469).ext E458).other W461 q405) G484 (((G421.other W450 q473).ext E458).other W461 q420) G489) fun _ T490 _ X490 hQ490=>?_
  obtain ⟨rfl,N490q,hh490⟩:=hQ490
  have N490:=Fr.app N479 N490q
  obtain ⟨_,X490,N490⟩:=own_hide X490 N490
  refine oV 411 #[oR b14,oI 1,oI 4,oR b16,oR b19,oI 2,oI 0,oI 4,oR b316,oI 2,oI 2,oI 0,oI 4] [(.long (-4294901761:Int64)),vI 0,vR b458] ?_
  have c491:=oT m395 m460
  have q492:=oM u384 (oT c491 sg_b458)
  obtain ⟨T493,h493,X493,e493,W493,V493,st493⟩:=own_stJ X490 hx hZ hh490 (V_b458.other W461 q492) (j:=(0:Int32)) ⟨by decide,by decide⟩ 0 rfl (Nat.le_of_ble_eq_true rfl) (g:=(mkF m 411 #[oR b14,oI 1,oI 4,oR b16,oR b19,oI 2,oI 0,oI 4,oR b316,oI 2,oI 2,oI 0,oI 4] [(.long (-4294901761:Int64)),vI 0,vR b458])) rfl rfl (hb hby d1_411)
  have K493:Keep h0 h493 [b14]:=K461.wr W493 (Or.inr sz_b458)
  have V493s:Arv Z h493 b458 k458 .long 2 [(.long (-4294901761:Int64)),(.long (0:Int64))] (.long (0:Int64)):=V493
  have N493:=Fr.snoc X493 N490 n_b458
  refine oJ 412 #[oR b14,oI 1,oI 4,oR b16,oR b19,oI 2,oI 0,oI 4,oR b316,oI 2,oI 2,oI 0,oI 4] [] st493 ?_
  refine oX2 a0 [b14,b16,b19,b316,b373,b383,b393,b458] [0,0,0,0,k373,0,0,0] [fE1_43 0 (vR 4)] [] [] [4] 8 [oR 0,oI 1,oI 4,oR 1,oR 2,oI 2,oI 0,oI 4,oR 3,oI 2,oI 2,oI 0,oI 4] [] [(4,(.array .long),4,[vR 5,vR 6,vR 7,.null])] 405 [oR 0,oI 1,oI 4,oR 1,oR 2,oI 2,oI 1,oI 4,oR 3,oI 2,oI 2,oI 0,oI 4] [vI 1,vR 0,vI 2,vR 0,vI 1,vR 7] [] tt hZ hown X493 N493 e493 (oA (ow122 hw) trivial) trivial (oA (G462.other W493 (Or.inl (oL PE2.lt sz_b458))) trivial) (oA (V461s.other W493 (Ne.symm q492)) trivial) (Or.inl rfl) trivial rfl rfl (by decide +kernel) 14 (by decide +kernel) fun T494 h494 _ X494 N494 e494 K494 q494 M494=>?_
  have e494:=e494.trans (q494 rfl)
  refine oV 405 #[oR b14,oI 1,oI 4,oR b16,oR b19,oI 2,oI 1,oI 4,oR b316,oI 2,oI 2,oI 0,oI 4] [vI 1,vR b14,vI 2,vR b14,vI 1,vR b458] ?_
  have c495:=oT c468 m460
  have q496:=oL u48 (oT c495 sg_b458)
  have G497:=((((G406.other W450 q469).ext E458).other W461 q405).other W493 q496)
  have q498:=oL u50 (oT c468 sg_b393)
  have q499:=oL u50 (oT c495 sg_b458)
  have G500:=((((G441.other W450 q498).ext E458).other W461 q440).other W493 q499)
  have c501:=oT c472 m460
  have q502:=oL u60 (oT c501 sg_b458)
  have G503:=((((G421.other W450 q473).ext E458).other W461 q420).other W493 q502)
  have q504:=oL u62 (oT c472 sg_b393)
  have q505:=oL u62 (oT c501 sg_b458)
  have G506:=((((G447.other W450 q504).ext E458).other W461 q446).other W493 q505)
  have c507:=oT c476 m460
  have q508:=oL u72 (oT c507 sg_b458)
  have G509:=((((G433.other W450 q477).ext E458).other W461 q432).other W493 q508)
  refine own_cP X494 hx hZ hown e494 (ow136 hw) (ow137 hw) (own_seli (mvT hZ (ow2 hw)) (Cond.privateMethod_at (mvP hZ (ow138 hw) (args:=#[]))) (mvT hZ (ow137 hw)) (by decide)) (ow138 hw) (ow3 hw) (ow139 hw) ((((G434.wr W450).ext E458).wr W461).wr W493) (y:=mn20) (argsL:=[vI 1]) (rest:=[vI 2,vR b14,vI 1,vR b458]) (W:=4) hml.symm (hb hby d1_405) (lenOf pd4 rfl) rfl (by decide) (rm19a114 l Z a0 hw [] b14 b34 b47 b59 k34 x34a x34b x34c x34d kc34 k47 x47a x47b x47c x47d kc47 k59 h493 n0 (oT Zs478 (Keep.of_wr W493).1) (G464.other W493 (Or.inl (oL PE2.lt sz_b458))) (G465.other W493 (Or.inl (oL PE2.lt sz_b458))) (G466.other W493 (Or.inl (oL PE2.lt sz_b458))) G497 G500 G503 G506 G509) fun _ T510 _ X510 hQ510=>?_
  obtain ⟨rfl,N510q,hh510⟩:=hQ510
  have N510:=Fr.app N494 N510q
  obtain ⟨_,X510,N510⟩:=own_hide X510 N510
  refine oV 408 #[oR b14,oI 1,oI 4,oR b16,oR b19,oI 2,oI 1,oI 4,oR b316,oI 2,oI 2,oI 0,oI 4] [(.long (-4294901761:Int64)),vI 2,vR b14,vI 1,vR b458] ?_
  have q511:=oL u51 (oT c495 sg_b458)
  have q512:=oL u63 (oT c501 sg_b458)
  refine own_cV X510 hx hZ hown hh510 (ow140 hw) (ow127 hw) (notFace_of_selects (args:=#[]) (mvT hZ (ow129 hw))) (ow129 hw) (ow128 hw) (ow3 hw) (ow130 hw) ((((G434.wr W450).ext E458).wr W461).wr W493) (y:=mn18) (z:=mn18) (argsL:=[vI 2,(.long (-4294901761:Int64))]) (rest:=[vI 1,vR b458]) (W:=2) hml.symm (hb hby d1_408) (lenOf pd12 rfl) rfl (by decide) (rm17a113 l Z a0 hw [] b14 (-4294901761:Int64) b34 b47 k34 x34a x34b x34c x34d kc34 k47 x47a x47b x47c x47d kc47 h493 n0 (oT Zs478 (Keep.of_wr W493).1) (G464.other W493 (Or.inl (oL PE2.lt sz_b458))) (G465.other W493 (Or.inl (oL PE2.lt sz_b458))) G497 (G484.other W493 q511) G503 (G489.other W493 q512)) fun _ T513 _ X513 hQ513=>?_
  obtain ⟨rfl,N513q,hh513⟩:=hQ513
  have N513:=Fr.app N510 N513q
  obtain ⟨_,X513,N513⟩:=own_hide X513 N513
  refine oV 411 #[oR b14,oI 1,oI 4,oR b16,oR b19,oI 2,oI 1,oI 4,oR b316,oI 2,oI 2,oI 0,oI 4] [(.long (-281470681743361:Int64)),vI 1,vR b458] ?_
  obtain ⟨T514,h514,X514,e514,W514,V514,st514⟩:=own_stJ X513 hx hZ hh513 V493s (j:=(1:Int32)) ⟨by decide,by decide⟩ 1 rfl (Nat.le_of_ble_eq_true rfl) (g:=(mkF m 411 #[oR b14,oI 1,oI 4,oR b16,oR b19,oI 2,oI 1,oI 4,oR b316,oI 2,oI 2,oI 0,oI 4] [(.long (-281470681743361:Int64)),vI 1,vR b458])) rfl rfl (hb hby d1_411)
  have K514:Keep h0 h514 [b14]:=K493.wr W514 (Or.inr sz_b458)
  have V514s:Arv Z h514 b458 k458 .long 2 [(.long (-4294901761:Int64)),(.long (-281470681743361:Int64))] (.long (0:Int64)):=V514
  have N514:=Fr.snoc X514 N513 n_b458
  refine oH st514 X514 tt 9 361 #[oR b14,oI 1,oI 4,oR b16,oR b19,oI 3,oI 2,oI 4,oR b316,oI 2,oI 2,oI 0,oI 4] [vR b19,vI 3] rfl ?_
  have c515:=oT c452 m460
  have q516:=oL u25 (oT c515 sg_b458)
  have G517:=((((G454.ext E458).other W461 (Or.inl q388)).other W493 (Or.inl q516)).other W514 (Or.inl q516))
  refine own_cI X514 hx hZ hown e514 (ow82 hw) (ow83 hw) (mvT hZ (ow84 hw)) (ow85 hw) (ow86 hw) (ow87 hw) (ow88 hw) (ow54 hw) (ow13 hw) (ow89 hw) ((((G455.ext E458).wr W461).wr W493).wr W514) (y:=mn11) (z:=mn10) (argsL:=[]) (rest:=[vI 3]) (W:=1) hml.symm (hb hby d1_361) (lenOf pd0 rfl) rfl (by decide) (rm12a94 l Z a0 hw [] b19 h514 n0 (oT (oT Zs478 (Keep.of_wr W493).1) (Keep.of_wr W514).1) G517) fun _ T518 _ X518 hQ518=>?_
  obtain ⟨rfl,N518q,hh518⟩:=hQ518
  have N518:=Fr.app N514 N518q
  obtain ⟨_,X518,N518⟩:=own_hide X518 N518
  refine oV 366 #[oR b14,oI 1,oI 4,oR b16,oR b19,oI 3,oI 2,oI 4,oR b316,oI 2,oI 2,oI 0,oI 4] [vI 4,vI 3] ?_
  have G519:=((G462.other W493 (Or.inl (oL PE2.lt sz_b458))).other W514 (Or.inl (oL PE2.lt sz_b458)))
  refine oX2 a0 [b14,b16,b19,b316,b373] [0,0,0,0,0] [fE1_43 0 (vR 4)] [] [] [] 5 [oR 0,oI 1,oI 4,oR 1,oR 2,oI 3,oI 2,oI 4,oR 3,oI 2,oI 2,oI 0,oI 4] [vI 4,vI 3] [] 377 [oR 0,oI 1,oI 4,oR 1,oR 2,oI 3,oI 2,oI 4,oR 3,oI 2,oI 2,oI 0,oI 4] [vI 3,vI 3,vR 4] [] tt hZ hown X518 N518 hh518 (oA (ow122 hw) trivial) trivial (oA G519 trivial) trivial (Or.inl rfl) trivial rfl rfl (by decide +kernel) 5 (by decide +kernel) fun T520 h520 _ X520 N520 e520 K520 q520 M520=>?_
  have e520:=e520.trans (q520 rfl)
  refine oV 377 #[oR b14,oI 1,oI 4,oR b16,oR b19,oI 3,oI 2,oI 4,oR b316,oI 2,oI 2,oI 0,oI 4] [vI 3,vI 3,vR b373] ?_
  obtain ⟨T521,h521,k521,X521,e521,E521,A521,EA521,st521⟩:=newPE (aty:=.long) X520 hx hZ (ow124 hw) e520 (g:=(mkF m 377 #[oR b14,oI 1,oI 4,oR b16,oR b19,oI 3,oI 2,oI 4,oR b316,oI 2,oI 2,oI 0,oI 4] [vI 3,vI 3,vR b373])) rfl (hb hby d1_377) rfl (by decide) (cap:=3) (by decide) (by decide) (by decide) (by decide) (ad:="[J") (by decide +kernel)
  obtain ⟨b521,g_b521⟩:∃ z,z = h514.size:=⟨_,rfl⟩
  have sg_b521:h514.size≤b521:=Nat.le_of_eq g_b521.symm
  rw [← g_b521] at A521 EA521 st521
  have n_b521:=oT (oT (oT Zs478 (Keep.of_wr W493).1) (Keep.of_wr W514).1) sg_b521
  have sz_b521:=oT K514.1 sg_b521
  have u522:=(oW (oW (oW V_b458.lt (Keep.of_wr W461).1) (Keep.of_wr W493).1) (Keep.of_wr W514).1)
  have m523:h450.size≤h514.size:=(oT (oT (oT (oT (Nat.le_refl _) E458.1) (Keep.of_wr W461).1) (Keep.of_wr W493).1) (Keep.of_wr W514).1)
  have K521:Keep h0 h521 [b14]:=K514.ext E521
  have V_b521:Arv Z h521 b521 k521 .long 3 [(.long (0:Int64)),(.long (0:Int64)),(.long (0:Int64))] (.long (0:Int64)):=(Arv.new A521 (by decide)).pad (pad_rep [] (.long (0:Int64)) 3)
  refine oJ 379 #[oR b14,oI 1,oI 4,oR b16,oR b19,oI 3,oI 2,oI 4,oR b316,oI 2,oI 2,oI 0,oI 4] [vR b521,vI 3,vR b373] st521 ?_
  have G524:=(((V461s.other W493 (Ne.symm q492)).other W514 (Ne.symm q492)).ext E521)
  obtain ⟨T525,h525,X525,e525,W525,V525,st525⟩:=own_stR X521 hx hZ e521 G524 (j:=(3:Int32)) ⟨by decide,by decide⟩ rfl rfl (fun cl Ar q=>Sto.ofVA Ar q O373 (Ins.self EA521)) 3 rfl (Nat.le_of_ble_eq_true rfl) (g:=(mkF m 379 #[oR b14,oI 1,oI 4,oR b16,oR b19,oI 3,oI 2,oI 4,oR b316,oI 2,oI 2,oI 0,oI 4] [vR b521,vI 3,vR b373])) rfl rfl (hb hby d1_379)
  have K525:Keep h0 h525 [b14]:=K521.wr W525 (Or.inr sz_b373)
  have V525s:Arv Z h525 b373 k373 (.array .long) 4 [vR b383,vR b393,vR b458,vR b521] .null:=V525
  have N525:=Fr.snoc X525 N520 n_b373
  refine oJ 380 #[oR b14,oI 1,oI 4,oR b16,oR b19,oI 3,oI 2,oI 4,oR b316,oI 2,oI 2,oI 0,oI 4] [] st525 ?_
  have G526:=((G519.ext E521).other W525 (Or.inl (oL PE2.lt sz_b373)))
  refine oX2 a0 [b14,b16,b19,b316,b373,b383,b393,b458,b521] [0,0,0,0,k373,0,0,0,0] [fE1_43 0 (vR 4)] [] [] [4] 9 [oR 0,oI 1,oI 4,oR 1,oR 2,oI 3,oI 2,oI 4,oR 3,oI 2,oI 2,oI 0,oI 4] [] [(4,(.array .long),4,[vR 5,vR 6,vR 7,vR 8])] 405 [oR 0,oI 1,oI 4,oR 1,oR 2,oI 3,oI 0,oI 4,oR 3,oI 2,oI 2,oI 0,oI 4] [vI 0,vR 0,vI 3,vR 0,vI 0,vR 8] [] tt hZ hown X525 N525 e525 (oA (ow122 hw) trivial) trivial (oA G526 trivial) (oA V525s trivial) (Or.inl rfl) trivial rfl rfl (by decide +kernel) 14 (by decide +kernel) fun T527 h527 _ X527 N527 e527 K527 q527 M527=>?_
  have e527:=e527.trans (q527 rfl)
  refine oV 405 #[oR b14,oI 1,oI 4,oR b16,oR b19,oI 3,oI 0,oI 4,oR b316,oI 2,oI 2,oI 0,oI 4] [vI 0,vR b14,vI 3,vR b14,vI 0,vR b521] ?_
  have G528:=((((G464.other W493 (Or.inl (oL PE2.lt sz_b458))).other W514 (Or.inl (oL PE2.lt sz_b458))).ext E521).other W525 (Or.inl (oL PE2.lt sz_b373)))
  have G529:=((((G465.other W493 (Or.inl (oL PE2.lt sz_b458))).other W514 (Or.inl (oL PE2.lt sz_b458))).ext E521).other W525 (Or.inl (oL PE2.lt sz_b373)))
  have G530:=((((G466.other W493 (Or.inl (oL PE2.lt sz_b458))).other W514 (Or.inl (oL PE2.lt sz_b458))).ext E521).other W525 (Or.inl (oL PE2.lt sz_b373)))
  have q531:=oL u49 (oT c495 sg_b458)
  have K532:Keep _ h525 [b393,b373,b458]:=(((((((Keep.refl _ _).wr W450 oI0).ext E458).wr W461 oI1).wr W493 oI2).wr W514 oI2).ext E521).wr W525 oI1
  have G533:=(G416.keep K532 (ninS q470 (ninS q414 (ninS q531 nin0))))
  have q534:=oL u61 (oT c501 sg_b458)
  have G535:=(G429.keep K532 (ninS q474 (ninS q428 (ninS q534 nin0))))
  have Zs536:n0≤h525.size:=(oT (oT (oT (oT Zs478 (Keep.of_wr W493).1) (Keep.of_wr W514).1) E521.1) (Keep.of_wr W525).1)
  have G537:=(((((((G434.wr W450).ext E458).wr W461).wr W493).wr W514).ext E521).wr W525)
  refine own_cP X527 hx hZ hown e527 (ow136 hw) (ow137 hw) (own_seli (mvT hZ (ow2 hw)) (Cond.privateMethod_at (mvP hZ (ow138 hw) (args:=#[]))) (mvT hZ (ow137 hw)) (by decide)) (ow138 hw) (ow3 hw) (ow139 hw) G537 (y:=mn20) (argsL:=[vI 0]) (rest:=[vI 3,vR b14,vI 0,vR b521]) (W:=4) hml.symm (hb hby d1_405) (lenOf pd4 rfl) rfl (by decide) (rm19a111 l Z a0 hw [] b14 b34 b47 b59 k34 x34a x34b x34c x34d kc34 k47 x47a x47b x47c x47d kc47 k59 h525 n0 Zs536 G528 G529 G530 (((G497.other W514 q496).ext E521).other W525 q405) G533 (((G503.other W514 q502).ext E521).other W525 q420) G535 (((G509.other W514 q508).ext E521).other W525 q432)) fun _ T538 _ X538 hQ538=>?_
  obtain ⟨rfl,N538q,hh538⟩:=hQ538
  have N538:=Fr.app N527 N538q
  obtain ⟨_,X538,N538⟩:=own_hide X538 N538
  refine oV 408 #[oR b14,oI 1,oI 4,oR b16,oR b19,oI 3,oI 0,oI 4,oR b316,oI 2,oI 2,oI 0,oI 4] [(.long (-65536:Int64)),vI 3,vR b14,vI 0,vR b521] ?_
  have q539:=oL u52 (oT c404 sg_b373)
  have q540:=oL u52 (oT c468 sg_b393)
  have q541:=oL u52 (oT c495 sg_b458)
  have G542:=(((((((V363_4.ext E373).other W378 (oM PE2.lt sz_x34d)).ext E383).other W386 q539).ext E393).other W396 q539).keep K532 (ninS q540 (ninS q539 (ninS q541 nin0))))
  have q543:=oL u64 (oT c419 sg_b373)
  have q544:=oL u64 (oT c472 sg_b393)
  have q545:=oL u64 (oT c501 sg_b458)
  have G546:=(((((((V363_6.ext E373).other W378 (oM PE2.lt sz_x47d)).ext E383).other W386 q543).ext E393).other W396 q543).keep K532 (ninS q544 (ninS q543 (ninS q545 nin0))))
  refine own_cV X538 hx hZ hown hh538 (ow140 hw) (ow127 hw) (notFace_of_selects (args:=#[]) (mvT hZ (ow129 hw))) (ow129 hw) (ow128 hw) (ow3 hw) (ow130 hw) G537 (y:=mn18) (z:=mn18) (argsL:=[vI 3,(.long (-65536:Int64))]) (rest:=[vI 0,vR b521]) (W:=2) hml.symm (hb hby d1_408) (lenOf pd12 rfl) rfl (by decide) (rm17a115 l Z a0 hw [] b14 (-65536:Int64) b34 b47 k34 x34a x34b x34c x34d kc34 k47 x47a x47b x47c x47d kc47 h525 n0 Zs536 G528 G529 (((G497.other W514 q496).ext E521).other W525 q405) G542 (((G503.other W514 q502).ext E521).other W525 q420) G546) fun _ T547 _ X547 hQ547=>?_
  obtain ⟨rfl,N547q,hh547⟩:=hQ547
  have N547:=Fr.app N538 N547q
  obtain ⟨_,X547,N547⟩:=own_hide X547 N547
  refine oV 411 #[oR b14,oI 1,oI 4,oR b16,oR b19,oI 3,oI 0,oI 4,oR b316,oI 2,oI 2,oI 0,oI 4] [(.long (-4294901761:Int64)),vI 0,vR b521] ?_
  have c548:=oT c491 m523
  have q549:=oM u384 (oT c548 sg_b521)
  obtain ⟨T550,h550,X550,e550,W550,V550,st550⟩:=own_stJ X547 hx hZ hh547 (V_b521.other W525 q549) (j:=(0:Int32)) ⟨by decide,by decide⟩ 0 rfl (Nat.le_of_ble_eq_true rfl) (g:=(mkF m 411 #[oR b14,oI 1,oI 4,oR b16,oR b19,oI 3,oI 0,oI 4,oR b316,oI 2,oI 2,oI 0,oI 4] [(.long (-4294901761:Int64)),vI 0,vR b521])) rfl rfl (hb hby d1_411)
  have K550:Keep h0 h550 [b14]:=K525.wr W550 (Or.inr sz_b521)
  have V550s:Arv Z h550 b521 k521 .long 3 [(.long (-4294901761:Int64)),(.long (0:Int64)),(.long (0:Int64))] (.long (0:Int64)):=V550
  have N550:=Fr.snoc X550 N547 n_b521
  refine oJ 412 #[oR b14,oI 1,oI 4,oR b16,oR b19,oI 3,oI 0,oI 4,oR b316,oI 2,oI 2,oI 0,oI 4] [] st550 ?_
  refine oX2 a0 [b14,b16,b19,b316,b373,b383,b393,b458,b521] [0,0,0,0,k373,0,0,0,0] [fE1_43 0 (vR 4)] [] [] [4] 9 [oR 0,oI 1,oI 4,oR 1,oR 2,oI 3,oI 0,oI 4,oR 3,oI 2,oI 2,oI 0,oI 4] [] [(4,(.array .long),4,[vR 5,vR 6,vR 7,vR 8])] 405 [oR 0,oI 1,oI 4,oR 1,oR 2,oI 3,oI 1,oI 4,oR 3,oI 2,oI 2,oI 0,oI 4] [vI 1,vR 0,vI 3,vR 0,vI 1,vR 8] [] tt hZ hown X550 N550 e550 (oA (ow122 hw) trivial) trivial (oA (G526.other W550 (Or.inl (oL PE2.lt sz_b521))) trivial) (oA (V525s.other W550 (Ne.symm q549)) trivial) (Or.inl rfl) trivial rfl rfl (by decide +kernel) 14 (by decide +kernel) fun T551 h551 _ X551 N551 e551 K551 q551 M551=>?_
  have e551:=e551.trans (q551 rfl)
  refine oV 405 #[oR b14,oI 1,oI 4,oR b16,oR b19,oI 3,oI 1,oI 4,oR b316,oI 2,oI 2,oI 0,oI 4] [vI 1,vR b14,vI 3,vR b14,vI 1,vR b521] ?_
  have c552:=oT c495 m523
  have q553:=oL u48 (oT c552 sg_b521)
  have G554:=((((G497.other W514 q496).ext E521).other W525 q405).other W550 q553)
  have q555:=oL u50 (oT c552 sg_b521)
  have G556:=((((G500.other W514 q499).ext E521).other W525 q440).other W550 q555)
  have c557:=oT c501 m523
  have q558:=oL u60 (oT c557 sg_b521)
  have G559:=((((G503.other W514 q502).ext E521).other W525 q420).other W550 q558)
  have q560:=oL u62 (oT c557 sg_b521)
  have G561:=((((G506.other W514 q505).ext E521).other W525 q446).other W550 q560)
  have c562:=oT c507 m523
  have q563:=oL u72 (oT c562 sg_b521)
  have G564:=((((G509.other W514 q508).ext E521).other W525 q432).other W550 q563)
  refine own_cP X551 hx hZ hown e551 (ow136 hw) (ow137 hw) (own_seli (mvT hZ (ow2 hw)) (Cond.privateMethod_at (mvP hZ (ow138 hw) (args:=#[]))) (mvT hZ (ow137 hw)) (by decide)) (ow138 hw) (ow3 hw) (ow139 hw) (G537.wr W550) (y:=mn20) (argsL:=[vI 1]) (rest:=[vI 3,vR b14,vI 1,vR b521]) (W:=4) hml.symm (hb hby d1_405) (lenOf pd4 rfl) rfl (by decide) (rm19a114 l Z a0 hw [] b14 b34 b47 b59 k34 x34a x34b x34c x34d kc34 k47 x47a x47b x47c x47d kc47 k59 h550 n0 (oT Zs536 (Keep.of_wr W550).1) (G528.other W550 (Or.inl (oL PE2.lt sz_b521))) (G529.other W550 (Or.inl (oL PE2.lt sz_b521))) (G530.other W550 (Or.inl (oL PE2.lt sz_b521))) G554 G556 G559 G561 G564) fun _ T565 _ X565 hQ565=>?_
  obtain ⟨rfl,N565q,hh565⟩:=hQ565
  have N565:=Fr.app N551 N565q
  obtain ⟨_,X565,N565⟩:=own_hide X565 N565
  refine oV 408 #[oR b14,oI 1,oI 4,oR b16,oR b19,oI 3,oI 1,oI 4,oR b316,oI 2,oI 2,oI 0,oI 4] [(.long (-4294901761:Int64)),vI 3,vR b14,vI 1,vR b521] ?_
  have q566:=oL u52 (oT c552 sg_b521)
  have q567:=oL u64 (oT c557 sg_b521)
  refine own_cV X565 hx hZ hown hh565 (ow140 hw) (ow127 hw) (notFace_of_selects (args:=#[]) (mvT hZ (ow129 hw))) (ow129 hw) (ow128 hw) (ow3 hw) (ow130 hw) (G537.wr W550) (y:=mn18) (z:=mn18) (argsL:=[vI 3,(.long (-4294901761:Int64))]) (rest:=[vI 1,vR b521]) (W:=2) hml.symm (hb hby d1_408) (lenOf pd12 rfl) rfl (by decide) (rm17a115 l Z a0 hw [] b14 (-4294901761:Int64) b34 b47 k34 x34a x34b x34c x34d kc34 k47 x47a x47b x47c x47d kc47 h550 n0 (oT Zs536 (Keep.of_wr W550).1) (G528.other W550 (Or.inl (oL PE2.lt sz_b521))) (G529.other W550 (Or.inl (oL PE2.lt sz_b521))) G554 (G542.other W550 q566) G559 (G546.other W550 q567)) fun _ T568 _ X568 hQ568=>?_
  obtain ⟨rfl,N568q,hh568⟩:=hQ568
  have N568:=Fr.app N565 N568q
  obtain ⟨_,X568,N568⟩:=own_hide X568 N568
  refine oV 411 #[oR b14,oI 1,oI 4,oR b16,oR b19,oI 3,oI 1,oI 4,oR b316,oI 2,oI 2,oI 0,oI 4] [(.long (-281470681743361:Int64)),vI 1,vR b521] ?_
  obtain ⟨T569,h569,X569,e569,W569,V569,st569⟩:=own_stJ X568 hx hZ hh568 V550s (j:=(1:Int32)) ⟨by decide,by decide⟩ 1 rfl (Nat.le_of_ble_eq_true rfl) (g:=(mkF m 411 #[oR b14,oI 1,oI 4,oR b16,oR b19,oI 3,oI 1,oI 4,oR b316,oI 2,oI 2,oI 0,oI 4] [(.long (-281470681743361:Int64)),vI 1,vR b521])) rfl rfl (hb hby d1_411)
  have K569:Keep h0 h569 [b14]:=K550.wr W569 (Or.inr sz_b521)
  have V569s:Arv Z h569 b521 k521 .long 3 [(.long (-4294901761:Int64)),(.long (-281470681743361:Int64)),(.long (0:Int64))] (.long (0:Int64)):=V569
  have N569:=Fr.snoc X569 N568 n_b521
  refine oJ 412 #[oR b14,oI 1,oI 4,oR b16,oR b19,oI 3,oI 1,oI 4,oR b316,oI 2,oI 2,oI 0,oI 4] [] st569 ?_
  have G570:=((V525s.other W550 (Ne.symm q549)).other W569 (Ne.symm q549))
  have G571:=((G526.other W550 (Or.inl (oL PE2.lt sz_b521))).other W569 (Or.inl (oL PE2.lt sz_b521)))
  refine oX2 a0 [b14,b16,b19,b316,b373,b383,b393,b458,b521] [0,0,0,0,k373,0,0,0,0] [fE1_43 0 (vR 4)] [] [] [4] 9 [oR 0,oI 1,oI 4,oR 1,oR 2,oI 3,oI 1,oI 4,oR 3,oI 2,oI 2,oI 0,oI 4] [] [(4,(.array .long),4,[vR 5,vR 6,vR 7,vR 8])] 405 [oR 0,oI 1,oI 4,oR 1,oR 2,oI 3,oI 2,oI 4,oR 3,oI 2,oI 2,oI 0,oI 4] [vI 2,vR 0,vI 3,vR 0,vI 2,vR 8] [] tt hZ hown X569 N569 e569 (oA (ow122 hw) trivial) trivial (oA G571 trivial) (oA G570 trivial) (Or.inl rfl) trivial rfl rfl (by decide +kernel) 14 (by decide +kernel) fun T572 h572 _ X572 N572 e572 K572 q572 M572=>?_
  have e572:=e572.trans (q572 rfl)
  refine oV 405 #[oR b14,oI 1,oI 4,oR b16,oR b19,oI 3,oI 2,oI 4,oR b316,oI 2,oI 2,oI 0,oI 4] [vI 2,vR b14,vI 3,vR b14,vI 2,vR b521] ?_
  have G573:=((G528.other W550 (Or.inl (oL PE2.lt sz_b521))).other W569 (Or.inl (oL PE2.lt sz_b521)))
  have G574:=((G529.other W550 (Or.inl (oL PE2.lt sz_b521))).other W569 (Or.inl (oL PE2.lt sz_b521)))
  have G575:=((G530.other W550 (Or.inl (oL PE2.lt sz_b521))).other W569 (Or.inl (oL PE2.lt sz_b521)))
  have q576:=oL u51 (oT c552 sg_b521)
  have G577:=((((((G484.other W493 q511).other W514 q511).ext E521).other W525 q482).other W550 q576).other W569 q576)
  have q578:=oL u63 (oT c557 sg_b521)
  have G579:=((((((G489.other W493 q512).other W514 q512).ext E521).other W525 q487).other W550 q578).other W569 q578)
  refine own_cP X572 hx hZ hown e572 (ow136 hw) (ow137 hw) (own_seli (mvT hZ (ow2 hw)) (Cond.privateMethod_at (mvP hZ (ow138 hw) (args:=#[]))) (mvT hZ (ow137 hw)) (by decide)) (ow138 hw) (ow3 hw) (ow139 hw) ((G537.wr W550).wr W569) (y:=mn20) (argsL:=[vI 2]) (rest:=[vI 3,vR b14,vI 2,vR b521]) (W:=4) hml.symm (hb hby d1_405) (lenOf pd4 rfl) rfl (by decide) (rm19a116 l Z a0 hw [] b14 b34 b47 b59 k34 x34a x34b x34c x34d kc34 k47 x47a x47b x47c x47d kc47 k59 h569 n0 (oT (oT Zs536 (Keep.of_wr W550).1) (Keep.of_wr W569).1) G573 G574 G575 (G554.other W569 q553) G577 (G559.other W569 q558) G579 (G564.other W569 q563)) fun _ T580 _ X580 hQ580=>?_
  obtain ⟨rfl,N580q,hh580⟩:=hQ580
  have N580:=Fr.app N572 N580q
  obtain ⟨_,X580,N580⟩:=own_hide X580 N580
  refine oV 408 #[oR b14,oI 1,oI 4,oR b16,oR b19,oI 3,oI 2,oI 4,oR b316,oI 2,oI 2,oI 0,oI 4] [(.long (-281470681743361:Int64)),vI 3,vR b14,vI 2,vR b521] ?_
  refine own_cV X580 hx hZ hown hh580 (ow140 hw) (ow127 hw) (notFace_of_selects (args:=#[]) (mvT hZ (ow129 hw))) (ow129 hw) (ow128 hw) (ow3 hw) (ow130 hw) ((G537.wr W550).wr W569) (y:=mn18) (z:=mn18) (argsL:=[vI 3,(.long (-281470681743361:Int64))]) (rest:=[vI 2,vR b521]) (W:=2) hml.symm (hb hby d1_408) (lenOf pd12 rfl) rfl (by decide) (rm17a115 l Z a0 hw [] b14 (-281470681743361:Int64) b34 b47 k34 x34a x34b x34c x34d kc34 k47 x47a x47b x47c x47d kc47 h569 n0 (oT (oT Zs536 (Keep.of_wr W550).1) (Keep.of_wr W569).1) G573 G574 (G554.other W569 q553) ((G542.other W550 q566).other W569 q566) (G559.other W569 q558) ((G546.other W550 q567).other W569 q567)) fun _ T581 _ X581 hQ581=>?_
  obtain ⟨rfl,N581q,hh581⟩:=hQ581
  have N581:=Fr.app N580 N581q
  obtain ⟨_,X581,N581⟩:=own_hide X581 N581
  refine oV 411 #[oR b14,oI 1,oI 4,oR b16,oR b19,oI 3,oI 2,oI 4,oR b316,oI 2,oI 2,oI 0,oI 4] [(.long (281474976710655:Int64)),vI 2,vR b521] ?_
  obtain ⟨T582,h582,X582,e582,W582,V582,st582⟩:=own_stJ X581 hx hZ hh581 V569s (j:=(2:Int32)) ⟨by decide,by decide⟩ 2 rfl (Nat.le_of_ble_eq_true rfl) (g:=(mkF m 411 #[oR b14,oI 1,oI 4,oR b16,oR b19,oI 3,oI 2,oI 4,oR b316,oI 2,oI 2,oI 0,oI 4] [(.long (281474976710655:Int64)),vI 2,vR b521])) rfl rfl (hb hby d1_411)
  have K582:Keep h0 h582 [b14]:=K569.wr W582 (Or.inr sz_b521)
  have V582s:Arv Z h582 b521 k521 .long 3 [(.long (-4294901761:Int64)),(.long (-281470681743361:Int64)),(.long (281474976710655:Int64))] (.long (0:Int64)):=V582
  have N582:=Fr.snoc X582 N581 n_b521
  refine oH st582 X582 tt 9 361 #[oR b14,oI 1,oI 4,oR b16,oR b19,oI 4,oI 3,oI 4,oR b316,oI 2,oI 2,oI 0,oI 4] [vR b19,vI 4] rfl ?_
  have c583:=oT c515 m523
  have q584:=oL u25 (oT c583 sg_b521)
  have G585:=(((((G517.ext E521).other W525 (Or.inl q388)).other W550 (Or.inl q584)).other W569 (Or.inl q584)).other W582 (Or.inl q584))
  have G586:=(((((((((G455.ext E458).wr W461).wr W493).wr W514).ext E521).wr W525).wr W550).wr W569).wr W582)
  refine own_cI X582 hx hZ hown e582 (ow82 hw) (ow83 hw) (mvT hZ (ow84 hw)) (ow85 hw) (ow86 hw) (ow87 hw) (ow88 hw) (ow54 hw) (ow13 hw) (ow89 hw) G586 (y:=mn11) (z:=mn10) (argsL:=[]) (rest:=[vI 4]) (W:=1) hml.symm (hb hby d1_361) (lenOf pd0 rfl) rfl (by decide) (rm12a94 l Z a0 hw [] b19 h582 n0 (oT (oT (oT Zs536 (Keep.of_wr W550).1) (Keep.of_wr W569).1) (Keep.of_wr W582).1) G585) fun _ T587 _ X587 hQ587=>?_
  obtain ⟨rfl,N587q,hh587⟩:=hQ587
  have N587:=Fr.app N582 N587q
  obtain ⟨_,X587,N587⟩:=own_hide X587 N587
  refine oV 366 #[oR b14,oI 1,oI 4,oR b16,oR b19,oI 4,oI 3,oI 4,oR b316,oI 2,oI 2,oI 0,oI 4] [vI 4,vI 4] ?_
  refine oG X587 tt 1 424 #[oR b14,oI 1,oI 4,oR b16,oR b19,oI 4,oI 3,oI 4,oR b316,oI 2,oI 2,oI 0,oI 4] [] rfl ?_
  refine own_ret X587 (v:=none) (fun _=>rfl) Bs (fun fs hr=>X587.returnOut hx Br (hb hby d1_424) hr) ?_ (by decide) (by decide)
  unfold Q1a81
  have G588:=((((((((EE_b34.keep K75).keep K182).keep K299).keep K415).keep K532).wr W550).wr W569).wr W582)
  have q589:=oL u49 (oT c552 sg_b521)
  have G590:=(((G533.other W550 q589).other W569 q589).other W582 q589)
  have G591:=((((((((EE_x34a.keep K75).keep K182).keep K299).keep K415).keep K532).wr W550).wr W569).wr W582)
  have G592:=((((((((EE_x34b.keep K75).keep K182).keep K299).keep K415).keep K532).wr W550).wr W569).wr W582)
  have G593:=((((((((EE_x34c.keep K75).keep K182).keep K299).keep K415).keep K532).wr W550).wr W569).wr W582)
  have G594:=(((G542.other W550 q566).other W569 q566).other W582 q566)
  have G595:=((((((((EE_x34d.keep K75).keep K182).keep K299).keep K415).keep K532).wr W550).wr W569).wr W582)
  have G596:=(((((((((((EE_b47.wr W55).ext E59).wr W68).ext E71).keep K182).keep K299).keep K415).keep K532).wr W550).wr W569).wr W582)
  have q597:=oL u61 (oT c557 sg_b521)
  have G598:=(((G535.other W550 q597).other W569 q597).other W582 q597)
  have G599:=(((((((((((EE_x47a.wr W55).ext E59).wr W68).ext E71).keep K182).keep K299).keep K415).keep K532).wr W550).wr W569).wr W582)
  have G600:=(((((((((((EE_x47b.wr W55).ext E59).wr W68).ext E71).keep K182).keep K299).keep K415).keep K532).wr W550).wr W569).wr W582)
  have G601:=(((((((((((EE_x47c.wr W55).ext E59).wr W68).ext E71).keep K182).keep K299).keep K415).keep K532).wr W550).wr W569).wr W582)
  have G602:=(((G546.other W550 q567).other W569 q567).other W582 q567)
  have G603:=(((((((((((EE_x47d.wr W55).ext E59).wr W68).ext E71).keep K182).keep K299).keep K415).keep K532).wr W550).wr W569).wr W582)
  rw [hh587]
  exact ⟨b34,k34,x34a,kc34,x34b,x34c,x34d,b47,k47,x47a,kc47,x47b,x47c,x47d,rfl,N587,K582,n_b34,sz_b34,n_x34a,sz_x34a,n_x34b,sz_x34b,n_x34c,sz_x34c,n_x34d,sz_x34d,n_b47,sz_b47,n_x47a,sz_x47a,n_x47b,sz_x47b,n_x47c,sz_x47c,n_x47d,sz_x47d,nn_x34a_b34,nn_x34b_b34,nn_x34b_x34a,nn_x34c_b34,nn_x34c_x34a,nn_x34c_x34b,nn_x34d_b34,nn_x34d_x34a,nn_x34d_x34b,nn_x34d_x34c,(oM u48 sg_b47),(oM u49 sg_b47),(oM u50 sg_b47),(oM u51 sg_b47),(oM u52 sg_b47),(oM u48 sg_x47a),(oM u49 sg_x47a),(oM u50 sg_x47a),(oM u51 sg_x47a),(oM u52 sg_x47a),nn_x47a_b47,(oM u48 sg_x47b),(oM u49 sg_x47b),(oM u50 sg_x47b),(oM u51 sg_x47b),(oM u52 sg_x47b),nn_x47b_b47,nn_x47b_x47a,(oM u48 sg_x47c),(oM u49 sg_x47c),(oM u50 sg_x47c),(oM u51 sg_x47c),(oM u52 sg_x47c),nn_x47c_b47,nn_x47c_x47a,nn_x47c_x47b,(oM u48 sg_x47d),(oM u49 sg_x47d),(oM u50 sg_x47d),(oM u51 sg_x47d),(oM u52 sg_x47d),nn_x47d_b47,nn_x47d_x47a,nn_x47d_x47b,nn_x47d_x47c,(G573.other W582 (Or.inl (oL PE2.lt sz_b521))),(G574.other W582 (Or.inl (oL PE2.lt sz_b521))),((G554.other W569 q553).other W582 q553),O34,G588,G590,G591,((G556.other W569 q555).other W582 q555),G592,(G577.other W582 q576),G593,G594,G595,((G559.other W569 q558).other W582 q558),O47,G596,G598,G599,((G561.other W569 q560).other W582 q560),G600,(G579.other W582 q578),G601,G602,G603⟩
def Q17a117 (Z:State)(q2:Int64)(h0:Heap)(n0:Nat)(v:Option Value)(h:Heap)(L:List Loc):Prop:=v = some (.long (kf (kf (kf (kf 0 q2 48 16) q2 32 16) q2 16 16) q2 0 16))∧Fr n0 L∧h = h0
set_option maxRecDepth 65536 in
set_option maxHeartbeats 40000000 in
theorem rm17a117 (l:Launch)(Z:State)(a0:Array Value)(hw:HW a0 Z)(ws:List Jvm.Cond)(b5:Addr)(q2:Int64)(b6a b6h:Addr)(k6b:ClassId)(b6c b6e b6f b6g:Addr)(k6d k6i:ClassId)(b6j b6l b6m b6n:Addr)(k6k:ClassId)(h0:Heap)(n0:Nat)(Z0:n0≤h0.size)(PF3:oF3 Z h0 b5 (vR b6a))(PF4:oF4 Z h0 b5 (vR b6h))(PV7:Arv Z h0 b6a k6b (.array .int) 4 [vR b6c,vR b6e,vR b6f,vR b6g] .null)(PV9:Arv Z h0 b6c k6d .int 4 own_ls6 (vI 0))(PV17:Arv Z h0 b6h k6i (.array .int) 4 [vR b6j,vR b6l,vR b6m,vR b6n] .null)(PV19:Arv Z h0 b6j k6k .int 4 own_ls7 (vI 0)) :
    own_Met l mn18 prog_28_method_6_code 9 (some .long) ws (oRm 0 0 0 0) #[vR b5,vI 0,(.long q2)] Z h0 (Q17a117 Z q2 h0 n0):=by
  refine own_met (own:=oLy) rfl (plainFor_of_name pn_0) ?_
  intro p e s m below meth c s₁ hx hby hml hZ hown hnm X0 e0 Br Bs
  have N0:=Fr.nil n0
  have tt:=own_tt hx hby own_ok17
  refine oV 0 #[oR b5,oI 0,oQ q2,oS,oU,oU,oU,oU,oU] [] ?_
  refine oX3 a0 [b5,b6a,b6c,b6e,b6f,b6g,b6h,b6j,b6l,b6m,b6n] [0,k6b,k6d,0,0,0,k6i,k6k,0,0,0] [fE17_29 0 (vR 6),fE17_26 0 (vR 1)] [(86,(-1))] [] [6,7,1,2] 11 [oR 0,oI 0,oQ q2,oS,oU,oU,oU,oU,oU] [] [(6,(.array .int),4,[vR 7,vR 8,vR 9,vR 10]),(7,.int,4,[vI 16,vI 16,vI 16,vI 16]),(1,(.array .int),4,[vR 2,vR 3,vR 4,vR 5]),(2,.int,4,[vI 48,vI 32,vI 16,vI 0])] 73 [oR 0,oI 0,oQ q2,oS,oQ (kf (kf (kf (kf 0 q2 48 16) q2 32 16) q2 16 16) q2 0 16),oS,oI 4,oQ (kg q2 0 16),oS] [.long (kf (kf (kf (kf 0 q2 48 16) q2 32 16) q2 16 16) q2 0 16)] [] tt hZ hown X0 N0 e0 (oA (ow94 hw) (oA (ow92 hw) trivial)) (oA (ow131 hw) trivial) (oA PF4 (oA PF3 trivial)) (oA PV17 (oA PV19 (oA PV7 (oA PV9 trivial)))) (Or.inl rfl) trivial rfl rfl (by decide +kernel) _ (oC 11 18 [oR 0,oI 0,oQ q2,oS,oQ 0,oS,oI 0,oU,oU] [] rfl (oC 10 34 [oR 0,oI 0,oQ q2,oS,oQ 0,oS,oI 0,oU,oU] [vI 64,.long (-1),.long (kh q2 48)] rfl (oC 10 48 [oR 0,oI 0,oQ q2,oS,oQ 0,oS,oI 0,oQ (kg q2 48 16),oS] [] rfl (oC 11 65 [oR 0,oI 0,oQ q2,oS,oQ (kf 0 q2 48 16),oS,oI 0,oQ (kg q2 48 16),oS] [] rfl (oC 9 18 [oR 0,oI 0,oQ q2,oS,oQ (kf 0 q2 48 16),oS,oI 1,oQ (kg q2 48 16),oS] [] rfl (oC 10 34 [oR 0,oI 0,oQ q2,oS,oQ (kf 0 q2 48 16),oS,oI 1,oQ (kg q2 48 16),oS] [vI 64,.long (-1),.long (kh q2 32)] rfl (oC 10 48 [oR 0,oI 0,oQ q2,oS,oQ (kf 0 q2 48 16),oS,oI 1,oQ (kg q2 32 16),oS] [] rfl (oC 11 65 [oR 0,oI 0,oQ q2,oS,oQ (kf (kf 0 q2 48 16) q2 32 16),oS,oI 1,oQ (kg q2 32 16),oS] [] rfl (oC 9 18 [oR 0,oI 0,oQ q2,oS,oQ (kf (kf 0 q2 48 16) q2 32 16),oS,oI 2,oQ (kg q2 32 16),oS] [] rfl (oC 10 34 [oR 0,oI 0,oQ q2,oS,oQ (kf (kf 0 q2 48 16) q2 32 16),oS,oI 2,oQ (kg q2 32 16),oS] [vI 64,.long (-1),.long (kh q2 16)] rfl (oC 10 48 [oR 0,oI 0,oQ q2,oS,oQ (kf (kf 0 q2 48 16) q2 32 16),oS,oI 2,oQ (kg q2 16 16),oS] [] rfl (oC 11 65 [oR 0,oI 0,oQ q2,oS,oQ (kf (kf (kf 0 q2 48 16) q2 32 16) q2 16 16),oS,oI 2,oQ (kg q2 16 16),oS] [] rfl (oC 9 18 [oR 0,oI 0,oQ q2,oS,oQ (kf (kf (kf 0 q2 48 16) q2 32 16) q2 16 16),oS,oI 3,oQ (kg q2 16 16),oS] [] rfl (oC 10 34 [oR 0,oI 0,oQ q2,oS,oQ (kf (kf (kf 0 q2 48 16) q2 32 16) q2 16 16),oS,oI 3,oQ (kg q2 16 16),oS] [vI 64,.long (-1),.long (kh q2 0)] rfl (oC 10 48 [oR 0,oI 0,oQ q2,oS,oQ (kf (kf (kf 0 q2 48 16) q2 32 16) q2 16 16),oS,oI 3,oQ (kg q2 0 16),oS] [] rfl (oC 11 65 [oR 0,oI 0,oQ q2,oS,oQ (kf (kf (kf (kf 0 q2 48 16) q2 32 16) q2 16 16) q2 0 16),oS,oI 3,oQ (kg q2 0 16),oS] [] (n2:=10) rfl rfl)))))))))))))))) fun T8 h8 _ X8 N8 e8 K8 q8 M8=>?_
  have e8:=e8.trans (q8 rfl)
  refine oV 73 #[oR b5,oI 0,oQ q2,oS,oQ (kf (kf (kf (kf 0 q2 48 16) q2 32 16) q2 16 16) q2 0 16),oS,oI 4,oQ (kg q2 0 16),oS] [(.long (kf (kf (kf (kf 0 q2 48 16) q2 32 16) q2 16 16) q2 0 16))] ?_
  refine own_ret X8 (v:=some (.long (kf (kf (kf (kf 0 q2 48 16) q2 32 16) q2 16 16) q2 0 16))) (oN Br) Bs (fun fs hr=>own_retL X8 hx Br (hb hby d17_73) hr) ?_ (by decide) (by decide)
  unfold Q17a117
  exact ⟨rfl,N8,e8⟩
def Q18a118 (Z:State)(q2:Int64)(h0:Heap)(n0:Nat)(v:Option Value)(h:Heap)(L:List Loc):Prop:=v = some (.long q2)∧Fr n0 L∧h = h0
set_option maxRecDepth 65536 in
set_option maxHeartbeats 40000000 in
theorem rm18a118 (l:Launch)(Z:State)(a0:Array Value)(hw:HW a0 Z)(ws:List Jvm.Cond)(q2:Int64)(h0:Heap)(n0:Nat)(Z0:n0≤h0.size) :
    own_Met l mn19 method_3_code 12 (some .long) ws (oRm 0 0 0 0) #[vI 4,vI 0,(.long q2)] Z h0 (Q18a118 Z q2 h0 n0):=by
  refine own_met (own:="com/example/libakin/libakin/simhash/LayoutKeyPinLaw") rfl (plainFor_of_name pn_1) ?_
  intro p e s m below meth c s₁ hx hby hml hZ hown hnm X0 e0 Br Bs
  have N0:=Fr.nil n0
  have tt:=own_tt hx hby own_ok18
  refine oV 0 #[oI 4,oI 0,oQ q2,oS,oU,oU,oU,oU,oU,oU,oU,oU] [] ?_
  refine oG X0 tt 3 5 #[oI 4,oI 0,oQ q2,oS,oU,oU,oU,oU,oU,oU,oU,oU] [(.long q2)] rfl ?_
  refine own_ret X0 (v:=some (.long q2)) (oN Br) Bs (fun fs hr=>own_retL X0 hx Br (hb hby d18_5) hr) ?_ (by decide) (by decide)
  unfold Q18a118
  exact ⟨rfl,N0,e0⟩
theorem d18_187:decode method_3_code 187 = .ok (.lreturn,1):=by decide +kernel
def Q18a119 (Z:State)(q2:Int64)(h0:Heap)(n0:Nat)(v:Option Value)(h:Heap)(L:List Loc):Prop:=v = some (.long ((((((q2.toUInt64 >>> ((48:Int32) &&& 0x3f).toInt64.toUInt64).toInt64) <<< ((48:Int32) &&& 0x3f).toInt64) ||| ((((q2.toUInt64 >>> ((32:Int32) &&& 0x3f).toInt64.toUInt64).toInt64) &&& (65535:Int64)) <<< ((32:Int32) &&& 0x3f).toInt64)) ||| ((q2 &&& (65535:Int64)) <<< ((16:Int32) &&& 0x3f).toInt64)) ||| (((q2.toUInt64 >>> ((16:Int32) &&& 0x3f).toInt64.toUInt64).toInt64) &&& (65535:Int64))))∧Fr n0 L∧h = h0
set_option maxRecDepth 65536 in
set_option maxHeartbeats 40000000 in
theorem rm18a119 (l:Launch)(Z:State)(a0:Array Value)(hw:HW a0 Z)(ws:List Jvm.Cond)(q2:Int64)(h0:Heap)(n0:Nat)(Z0:n0≤h0.size) :
    own_Met l mn19 method_3_code 12 (some .long) ws (oRm 0 0 0 0) #[vI 4,vI 1,(.long q2)] Z h0 (Q18a119 Z q2 h0 n0):=by
  refine own_met (own:="com/example/libakin/libakin/simhash/LayoutKeyPinLaw") rfl (plainFor_of_name pn_1) ?_
  intro p e s m below meth c s₁ hx hby hml hZ hown hnm X0 e0 Br Bs
  have N0:=Fr.nil n0
  have tt:=own_tt hx hby own_ok18
  refine oV 0 #[oI 4,oI 1,oQ q2,oS,oU,oU,oU,oU,oU,oU,oU,oU] [] ?_
  refine oX3 a0 [] [] [] [(25,65535)] [] [] 0 [oI 4,oI 1,oQ q2,oS,oU,oU,oU,oU,oU,oU,oU,oU] [] [] 187 [oI 4,oI 1,oQ q2,oS,oQ ((q2.toUInt64 >>> ((48:Int32) &&& 0x3f).toInt64.toUInt64).toInt64),oS,oQ (((q2.toUInt64 >>> ((32:Int32) &&& 0x3f).toInt64.toUInt64).toInt64) &&& (65535:Int64)),oS,oQ (((q2.toUInt64 >>> ((16:Int32) &&& 0x3f).toInt64.toUInt64).toInt64) &&& (65535:Int64)),oS,oQ (q2 &&& (65535:Int64)),oS] [.long ((((((q2.toUInt64 >>> ((48:Int32) &&& 0x3f).toInt64.toUInt64).toInt64) <<< ((48:Int32) &&& 0x3f).toInt64) ||| ((((q2.toUInt64 >>> ((32:Int32) &&& 0x3f).toInt64.toUInt64).toInt64) &&& (65535:Int64)) <<< ((32:Int32) &&& 0x3f).toInt64)) ||| ((q2 &&& (65535:Int64)) <<< ((16:Int32) &&& 0x3f).toInt64)) ||| (((q2.toUInt64 >>> ((16:Int32) &&& 0x3f).toInt64.toUInt64).toInt64) &&& (65535:Int64)))] [] tt hZ hown X0 N0 e0 trivial (oA (ow141 hw) trivial) trivial trivial (Or.inl rfl) trivial rfl rfl (by decide +kernel) _ (oC 8 26 [oI 4,oI 1,oQ q2,oS,oU,oU,oU,oU,oU,oU,oU,oU] [] rfl (oC 8 136 [oI 4,oI 1,oQ q2,oS,oQ ((q2.toUInt64 >>> ((48:Int32) &&& 0x3f).toInt64.toUInt64).toInt64),oS,oU,oU,oU,oU,oU,oU] [.long q2] rfl (oC 8 149 [oI 4,oI 1,oQ q2,oS,oQ ((q2.toUInt64 >>> ((48:Int32) &&& 0x3f).toInt64.toUInt64).toInt64),oS,oQ (((q2.toUInt64 >>> ((32:Int32) &&& 0x3f).toInt64.toUInt64).toInt64) &&& (65535:Int64)),oS,oU,oU,oU,oU] [.long ((q2.toUInt64 >>> ((16:Int32) &&& 0x3f).toInt64.toUInt64).toInt64)] rfl (oC 8 163 [oI 4,oI 1,oQ q2,oS,oQ ((q2.toUInt64 >>> ((48:Int32) &&& 0x3f).toInt64.toUInt64).toInt64),oS,oQ (((q2.toUInt64 >>> ((32:Int32) &&& 0x3f).toInt64.toUInt64).toInt64) &&& (65535:Int64)),oS,oQ (((q2.toUInt64 >>> ((16:Int32) &&& 0x3f).toInt64.toUInt64).toInt64) &&& (65535:Int64)),oS,oQ (q2 &&& (65535:Int64)),oS] [vI 1] rfl (oC 8 177 [oI 4,oI 1,oQ q2,oS,oQ ((q2.toUInt64 >>> ((48:Int32) &&& 0x3f).toInt64.toUInt64).toInt64),oS,oQ (((q2.toUInt64 >>> ((32:Int32) &&& 0x3f).toInt64.toUInt64).toInt64) &&& (65535:Int64)),oS,oQ (((q2.toUInt64 >>> ((16:Int32) &&& 0x3f).toInt64.toUInt64).toInt64) &&& (65535:Int64)),oS,oQ (q2 &&& (65535:Int64)),oS] [.long ((((q2.toUInt64 >>> ((32:Int32) &&& 0x3f).toInt64.toUInt64).toInt64) &&& (65535:Int64)) <<< ((32:Int32) &&& 0x3f).toInt64),.long (((q2.toUInt64 >>> ((48:Int32) &&& 0x3f).toInt64.toUInt64).toInt64) <<< ((48:Int32) &&& 0x3f).toInt64)] (n2:=7) rfl rfl))))) fun T4 h4 _ X4 N4 e4 K4 q4 M4=>?_
  have e4:=e4.trans (q4 rfl)
  refine oV 187 #[oI 4,oI 1,oQ q2,oS,oQ ((q2.toUInt64 >>> ((48:Int32) &&& 0x3f).toInt64.toUInt64).toInt64),oS,oQ (((q2.toUInt64 >>> ((32:Int32) &&& 0x3f).toInt64.toUInt64).toInt64) &&& (65535:Int64)),oS,oQ (((q2.toUInt64 >>> ((16:Int32) &&& 0x3f).toInt64.toUInt64).toInt64) &&& (65535:Int64)),oS,oQ (q2 &&& (65535:Int64)),oS] [(.long ((((((q2.toUInt64 >>> ((48:Int32) &&& 0x3f).toInt64.toUInt64).toInt64) <<< ((48:Int32) &&& 0x3f).toInt64) ||| ((((q2.toUInt64 >>> ((32:Int32) &&& 0x3f).toInt64.toUInt64).toInt64) &&& (65535:Int64)) <<< ((32:Int32) &&& 0x3f).toInt64)) ||| ((q2 &&& (65535:Int64)) <<< ((16:Int32) &&& 0x3f).toInt64)) ||| (((q2.toUInt64 >>> ((16:Int32) &&& 0x3f).toInt64.toUInt64).toInt64) &&& (65535:Int64))))] ?_
  refine own_ret X4 (v:=some (.long ((((((q2.toUInt64 >>> ((48:Int32) &&& 0x3f).toInt64.toUInt64).toInt64) <<< ((48:Int32) &&& 0x3f).toInt64) ||| ((((q2.toUInt64 >>> ((32:Int32) &&& 0x3f).toInt64.toUInt64).toInt64) &&& (65535:Int64)) <<< ((32:Int32) &&& 0x3f).toInt64)) ||| ((q2 &&& (65535:Int64)) <<< ((16:Int32) &&& 0x3f).toInt64)) ||| (((q2.toUInt64 >>> ((16:Int32) &&& 0x3f).toInt64.toUInt64).toInt64) &&& (65535:Int64))))) (oN Br) Bs (fun fs hr=>own_retL X4 hx Br (hb hby d18_187) hr) ?_ (by decide) (by decide)
  unfold Q18a119
  exact ⟨rfl,N4,e4⟩
theorem d18_213:decode method_3_code 213 = .ok (.lreturn,1):=by decide +kernel
def Q18a120 (Z:State)(q2:Int64)(h0:Heap)(n0:Nat)(v:Option Value)(h:Heap)(L:List Loc):Prop:=v = some (.long ((((((q2.toUInt64 >>> ((48:Int32) &&& 0x3f).toInt64.toUInt64).toInt64) <<< ((48:Int32) &&& 0x3f).toInt64) ||| ((((q2.toUInt64 >>> ((16:Int32) &&& 0x3f).toInt64.toUInt64).toInt64) &&& (65535:Int64)) <<< ((32:Int32) &&& 0x3f).toInt64)) ||| ((q2 &&& (65535:Int64)) <<< ((16:Int32) &&& 0x3f).toInt64)) ||| (((q2.toUInt64 >>> ((32:Int32) &&& 0x3f).toInt64.toUInt64).toInt64) &&& (65535:Int64))))∧Fr n0 L∧h = h0
set_option maxRecDepth 65536 in
set_option maxHeartbeats 40000000 in
theorem rm18a120 (l:Launch)(Z:State)(a0:Array Value)(hw:HW a0 Z)(ws:List Jvm.Cond)(q2:Int64)(h0:Heap)(n0:Nat)(Z0:n0≤h0.size) :
    own_Met l mn19 method_3_code 12 (some .long) ws (oRm 0 0 0 0) #[vI 4,vI 2,(.long q2)] Z h0 (Q18a120 Z q2 h0 n0):=by
  refine own_met (own:="com/example/libakin/libakin/simhash/LayoutKeyPinLaw") rfl (plainFor_of_name pn_1) ?_
  intro p e s m below meth c s₁ hx hby hml hZ hown hnm X0 e0 Br Bs
  have N0:=Fr.nil n0
  have tt:=own_tt hx hby own_ok18
  refine oV 0 #[oI 4,oI 2,oQ q2,oS,oU,oU,oU,oU,oU,oU,oU,oU] [] ?_
  refine oX3 a0 [] [] [] [(25,65535)] [] [] 0 [oI 4,oI 2,oQ q2,oS,oU,oU,oU,oU,oU,oU,oU,oU] [] [] 213 [oI 4,oI 2,oQ q2,oS,oQ ((q2.toUInt64 >>> ((48:Int32) &&& 0x3f).toInt64.toUInt64).toInt64),oS,oQ (((q2.toUInt64 >>> ((32:Int32) &&& 0x3f).toInt64.toUInt64).toInt64) &&& (65535:Int64)),oS,oQ (((q2.toUInt64 >>> ((16:Int32) &&& 0x3f).toInt64.toUInt64).toInt64) &&& (65535:Int64)),oS,oQ (q2 &&& (65535:Int64)),oS] [.long ((((((q2.toUInt64 >>> ((48:Int32) &&& 0x3f).toInt64.toUInt64).toInt64) <<< ((48:Int32) &&& 0x3f).toInt64) ||| ((((q2.toUInt64 >>> ((16:Int32) &&& 0x3f).toInt64.toUInt64).toInt64) &&& (65535:Int64)) <<< ((32:Int32) &&& 0x3f).toInt64)) ||| ((q2 &&& (65535:Int64)) <<< ((16:Int32) &&& 0x3f).toInt64)) ||| (((q2.toUInt64 >>> ((32:Int32) &&& 0x3f).toInt64.toUInt64).toInt64) &&& (65535:Int64)))] [] tt hZ hown X0 N0 e0 trivial (oA (ow141 hw) trivial) trivial trivial (Or.inl rfl) trivial rfl rfl (by decide +kernel) _ (oC 8 26 [oI 4,oI 2,oQ q2,oS,oU,oU,oU,oU,oU,oU,oU,oU] [] rfl (oC 8 136 [oI 4,oI 2,oQ q2,oS,oQ ((q2.toUInt64 >>> ((48:Int32) &&& 0x3f).toInt64.toUInt64).toInt64),oS,oU,oU,oU,oU,oU,oU] [.long q2] rfl (oC 8 149 [oI 4,oI 2,oQ q2,oS,oQ ((q2.toUInt64 >>> ((48:Int32) &&& 0x3f).toInt64.toUInt64).toInt64),oS,oQ (((q2.toUInt64 >>> ((32:Int32) &&& 0x3f).toInt64.toUInt64).toInt64) &&& (65535:Int64)),oS,oU,oU,oU,oU] [.long ((q2.toUInt64 >>> ((16:Int32) &&& 0x3f).toInt64.toUInt64).toInt64)] rfl (oC 8 163 [oI 4,oI 2,oQ q2,oS,oQ ((q2.toUInt64 >>> ((48:Int32) &&& 0x3f).toInt64.toUInt64).toInt64),oS,oQ (((q2.toUInt64 >>> ((32:Int32) &&& 0x3f).toInt64.toUInt64).toInt64) &&& (65535:Int64)),oS,oQ (((q2.toUInt64 >>> ((16:Int32) &&& 0x3f).toInt64.toUInt64).toInt64) &&& (65535:Int64)),oS,oQ (q2 &&& (65535:Int64)),oS] [vI 2] rfl (oC 8 198 [oI 4,oI 2,oQ q2,oS,oQ ((q2.toUInt64 >>> ((48:Int32) &&& 0x3f).toInt64.toUInt64).toInt64),oS,oQ (((q2.toUInt64 >>> ((32:Int32) &&& 0x3f).toInt64.toUInt64).toInt64) &&& (65535:Int64)),oS,oQ (((q2.toUInt64 >>> ((16:Int32) &&& 0x3f).toInt64.toUInt64).toInt64) &&& (65535:Int64)),oS,oQ (q2 &&& (65535:Int64)),oS] [.long (((q2.toUInt64 >>> ((48:Int32) &&& 0x3f).toInt64.toUInt64).toInt64) <<< ((48:Int32) &&& 0x3f).toInt64)] rfl (oC 8 210 [oI 4,oI 2,oQ q2,oS,oQ ((q2.toUInt64 >>> ((48:Int32) &&& 0x3f).toInt64.toUInt64).toInt64),oS,oQ (((q2.toUInt64 >>> ((32:Int32) &&& 0x3f).toInt64.toUInt64).toInt64) &&& (65535:Int64)),oS,oQ (((q2.toUInt64 >>> ((16:Int32) &&& 0x3f).toInt64.toUInt64).toInt64) &&& (65535:Int64)),oS,oQ (q2 &&& (65535:Int64)),oS] [.long (((((q2.toUInt64 >>> ((48:Int32) &&& 0x3f).toInt64.toUInt64).toInt64) <<< ((48:Int32) &&& 0x3f).toInt64) ||| ((((q2.toUInt64 >>> ((16:Int32) &&& 0x3f).toInt64.toUInt64).toInt64) &&& (65535:Int64)) <<< ((32:Int32) &&& 0x3f).toInt64)) ||| ((q2 &&& (65535:Int64)) <<< ((16:Int32) &&& 0x3f).toInt64))] (n2:=2) rfl rfl)))))) fun T4 h4 _ X4 N4 e4 K4 q4 M4=>?_
  have e4:=e4.trans (q4 rfl)
  refine oV 213 #[oI 4,oI 2,oQ q2,oS,oQ ((q2.toUInt64 >>> ((48:Int32) &&& 0x3f).toInt64.toUInt64).toInt64),oS,oQ (((q2.toUInt64 >>> ((32:Int32) &&& 0x3f).toInt64.toUInt64).toInt64) &&& (65535:Int64)),oS,oQ (((q2.toUInt64 >>> ((16:Int32) &&& 0x3f).toInt64.toUInt64).toInt64) &&& (65535:Int64)),oS,oQ (q2 &&& (65535:Int64)),oS] [(.long ((((((q2.toUInt64 >>> ((48:Int32) &&& 0x3f).toInt64.toUInt64).toInt64) <<< ((48:Int32) &&& 0x3f).toInt64) ||| ((((q2.toUInt64 >>> ((16:Int32) &&& 0x3f).toInt64.toUInt64).toInt64) &&& (65535:Int64)) <<< ((32:Int32) &&& 0x3f).toInt64)) ||| ((q2 &&& (65535:Int64)) <<< ((16:Int32) &&& 0x3f).toInt64)) ||| (((q2.toUInt64 >>> ((32:Int32) &&& 0x3f).toInt64.toUInt64).toInt64) &&& (65535:Int64))))] ?_
  refine own_ret X4 (v:=some (.long ((((((q2.toUInt64 >>> ((48:Int32) &&& 0x3f).toInt64.toUInt64).toInt64) <<< ((48:Int32) &&& 0x3f).toInt64) ||| ((((q2.toUInt64 >>> ((16:Int32) &&& 0x3f).toInt64.toUInt64).toInt64) &&& (65535:Int64)) <<< ((32:Int32) &&& 0x3f).toInt64)) ||| ((q2 &&& (65535:Int64)) <<< ((16:Int32) &&& 0x3f).toInt64)) ||| (((q2.toUInt64 >>> ((32:Int32) &&& 0x3f).toInt64.toUInt64).toInt64) &&& (65535:Int64))))) (oN Br) Bs (fun fs hr=>own_retL X4 hx Br (hb hby d18_213) hr) ?_ (by decide) (by decide)
  unfold Q18a120
  exact ⟨rfl,N4,e4⟩
theorem d18_234:decode method_3_code 234 = .ok (.lreturn,1):=by decide +kernel
def Q18a121 (Z:State)(q2:Int64)(h0:Heap)(n0:Nat)(v:Option Value)(h:Heap)(L:List Loc):Prop:=v = some (.long (((((((q2.toUInt64 >>> ((32:Int32) &&& 0x3f).toInt64.toUInt64).toInt64) &&& (65535:Int64)) <<< ((48:Int32) &&& 0x3f).toInt64) ||| ((((q2.toUInt64 >>> ((16:Int32) &&& 0x3f).toInt64.toUInt64).toInt64) &&& (65535:Int64)) <<< ((32:Int32) &&& 0x3f).toInt64)) ||| ((q2 &&& (65535:Int64)) <<< ((16:Int32) &&& 0x3f).toInt64)) ||| ((q2.toUInt64 >>> ((48:Int32) &&& 0x3f).toInt64.toUInt64).toInt64)))∧Fr n0 L∧h = h0
set_option maxRecDepth 65536 in
set_option maxHeartbeats 40000000 in
theorem rm18a121 (l:Launch)(Z:State)(a0:Array Value)(hw:HW a0 Z)(ws:List Jvm.Cond)(q2:Int64)(h0:Heap)(n0:Nat)(Z0:n0≤h0.size) :
    own_Met l mn19 method_3_code 12 (some .long) ws (oRm 0 0 0 0) #[vI 4,vI 3,(.long q2)] Z h0 (Q18a121 Z q2 h0 n0):=by
  refine own_met (own:="com/example/libakin/libakin/simhash/LayoutKeyPinLaw") rfl (plainFor_of_name pn_1) ?_
  intro p e s m below meth c s₁ hx hby hml hZ hown hnm X0 e0 Br Bs
  have N0:=Fr.nil n0
  have tt:=own_tt hx hby own_ok18
  refine oV 0 #[oI 4,oI 3,oQ q2,oS,oU,oU,oU,oU,oU,oU,oU,oU] [] ?_
  refine oX3 a0 [] [] [] [(25,65535)] [] [] 0 [oI 4,oI 3,oQ q2,oS,oU,oU,oU,oU,oU,oU,oU,oU] [] [] 234 [oI 4,oI 3,oQ q2,oS,oQ ((q2.toUInt64 >>> ((48:Int32) &&& 0x3f).toInt64.toUInt64).toInt64),oS,oQ (((q2.toUInt64 >>> ((32:Int32) &&& 0x3f).toInt64.toUInt64).toInt64) &&& (65535:Int64)),oS,oQ (((q2.toUInt64 >>> ((16:Int32) &&& 0x3f).toInt64.toUInt64).toInt64) &&& (65535:Int64)),oS,oQ (q2 &&& (65535:Int64)),oS] [.long (((((((q2.toUInt64 >>> ((32:Int32) &&& 0x3f).toInt64.toUInt64).toInt64) &&& (65535:Int64)) <<< ((48:Int32) &&& 0x3f).toInt64) ||| ((((q2.toUInt64 >>> ((16:Int32) &&& 0x3f).toInt64.toUInt64).toInt64) &&& (65535:Int64)) <<< ((32:Int32) &&& 0x3f).toInt64)) ||| ((q2 &&& (65535:Int64)) <<< ((16:Int32) &&& 0x3f).toInt64)) ||| ((q2.toUInt64 >>> ((48:Int32) &&& 0x3f).toInt64.toUInt64).toInt64))] [] tt hZ hown X0 N0 e0 trivial (oA (ow141 hw) trivial) trivial trivial (Or.inl rfl) trivial rfl rfl (by decide +kernel) _ (oC 8 26 [oI 4,oI 3,oQ q2,oS,oU,oU,oU,oU,oU,oU,oU,oU] [] rfl (oC 8 136 [oI 4,oI 3,oQ q2,oS,oQ ((q2.toUInt64 >>> ((48:Int32) &&& 0x3f).toInt64.toUInt64).toInt64),oS,oU,oU,oU,oU,oU,oU] [.long q2] rfl (oC 8 149 [oI 4,oI 3,oQ q2,oS,oQ ((q2.toUInt64 >>> ((48:Int32) &&& 0x3f).toInt64.toUInt64).toInt64),oS,oQ (((q2.toUInt64 >>> ((32:Int32) &&& 0x3f).toInt64.toUInt64).toInt64) &&& (65535:Int64)),oS,oU,oU,oU,oU] [.long ((q2.toUInt64 >>> ((16:Int32) &&& 0x3f).toInt64.toUInt64).toInt64)] rfl (oC 8 163 [oI 4,oI 3,oQ q2,oS,oQ ((q2.toUInt64 >>> ((48:Int32) &&& 0x3f).toInt64.toUInt64).toInt64),oS,oQ (((q2.toUInt64 >>> ((32:Int32) &&& 0x3f).toInt64.toUInt64).toInt64) &&& (65535:Int64)),oS,oQ (((q2.toUInt64 >>> ((16:Int32) &&& 0x3f).toInt64.toUInt64).toInt64) &&& (65535:Int64)),oS,oQ (q2 &&& (65535:Int64)),oS] [vI 3] rfl (oC 8 219 [oI 4,oI 3,oQ q2,oS,oQ ((q2.toUInt64 >>> ((48:Int32) &&& 0x3f).toInt64.toUInt64).toInt64),oS,oQ (((q2.toUInt64 >>> ((32:Int32) &&& 0x3f).toInt64.toUInt64).toInt64) &&& (65535:Int64)),oS,oQ (((q2.toUInt64 >>> ((16:Int32) &&& 0x3f).toInt64.toUInt64).toInt64) &&& (65535:Int64)),oS,oQ (q2 &&& (65535:Int64)),oS] [.long ((((q2.toUInt64 >>> ((32:Int32) &&& 0x3f).toInt64.toUInt64).toInt64) &&& (65535:Int64)) <<< ((48:Int32) &&& 0x3f).toInt64)] rfl (oC 8 231 [oI 4,oI 3,oQ q2,oS,oQ ((q2.toUInt64 >>> ((48:Int32) &&& 0x3f).toInt64.toUInt64).toInt64),oS,oQ (((q2.toUInt64 >>> ((32:Int32) &&& 0x3f).toInt64.toUInt64).toInt64) &&& (65535:Int64)),oS,oQ (((q2.toUInt64 >>> ((16:Int32) &&& 0x3f).toInt64.toUInt64).toInt64) &&& (65535:Int64)),oS,oQ (q2 &&& (65535:Int64)),oS] [.long ((((((q2.toUInt64 >>> ((32:Int32) &&& 0x3f).toInt64.toUInt64).toInt64) &&& (65535:Int64)) <<< ((48:Int32) &&& 0x3f).toInt64) ||| ((((q2.toUInt64 >>> ((16:Int32) &&& 0x3f).toInt64.toUInt64).toInt64) &&& (65535:Int64)) <<< ((32:Int32) &&& 0x3f).toInt64)) ||| ((q2 &&& (65535:Int64)) <<< ((16:Int32) &&& 0x3f).toInt64))] (n2:=2) rfl rfl)))))) fun T4 h4 _ X4 N4 e4 K4 q4 M4=>?_
  have e4:=e4.trans (q4 rfl)
  refine oV 234 #[oI 4,oI 3,oQ q2,oS,oQ ((q2.toUInt64 >>> ((48:Int32) &&& 0x3f).toInt64.toUInt64).toInt64),oS,oQ (((q2.toUInt64 >>> ((32:Int32) &&& 0x3f).toInt64.toUInt64).toInt64) &&& (65535:Int64)),oS,oQ (((q2.toUInt64 >>> ((16:Int32) &&& 0x3f).toInt64.toUInt64).toInt64) &&& (65535:Int64)),oS,oQ (q2 &&& (65535:Int64)),oS] [(.long (((((((q2.toUInt64 >>> ((32:Int32) &&& 0x3f).toInt64.toUInt64).toInt64) &&& (65535:Int64)) <<< ((48:Int32) &&& 0x3f).toInt64) ||| ((((q2.toUInt64 >>> ((16:Int32) &&& 0x3f).toInt64.toUInt64).toInt64) &&& (65535:Int64)) <<< ((32:Int32) &&& 0x3f).toInt64)) ||| ((q2 &&& (65535:Int64)) <<< ((16:Int32) &&& 0x3f).toInt64)) ||| ((q2.toUInt64 >>> ((48:Int32) &&& 0x3f).toInt64.toUInt64).toInt64)))] ?_
  refine own_ret X4 (v:=some (.long (((((((q2.toUInt64 >>> ((32:Int32) &&& 0x3f).toInt64.toUInt64).toInt64) &&& (65535:Int64)) <<< ((48:Int32) &&& 0x3f).toInt64) ||| ((((q2.toUInt64 >>> ((16:Int32) &&& 0x3f).toInt64.toUInt64).toInt64) &&& (65535:Int64)) <<< ((32:Int32) &&& 0x3f).toInt64)) ||| ((q2 &&& (65535:Int64)) <<< ((16:Int32) &&& 0x3f).toInt64)) ||| ((q2.toUInt64 >>> ((48:Int32) &&& 0x3f).toInt64.toUInt64).toInt64)))) (oN Br) Bs (fun fs hr=>own_retL X4 hx Br (hb hby d18_234) hr) ?_ (by decide) (by decide)
  unfold Q18a121
  exact ⟨rfl,N4,e4⟩
def own_t0:Nat→Option (Instr × Nat):=tB 59 (tB 28 (tB 13 (tB 5 (tB 3 (tB 0 (tP 0 (.iload_n 0)) (tP 3 .iand)) (tB 4 (tP 4 (.iconst 5)) (tP 5 .irem))) (tB 8 (tB 6 (tQ 6 (.istore 4) 2) (tQ 8 (.iload 4) 2)) (tB 10 (tQ 10 (.ifCond .ne 12) 3) (tP 13 (.iconst 0))))) (tB 19 (tB 16 (tB 14 (tQ 14 (.istore 5) 2) (tP 16 (.iconst 1))) (tB 17 (tQ 17 (.istore 6) 2) (tQ 19 (.goto 54) 3))) (tB 24 (tB 22 (tQ 22 (.iload 4) 2) (tP 24 (.iconst 1))) (tB 25 (tQ 25 (.if_icmp .ne 12) 3) (tP 28 (.iconst 1)))))) (tB 43 (tB 34 (tB 31 (tB 29 (tQ 29 (.istore 5) 2) (tP 31 (.iconst 2))) (tB 32 (tQ 32 (.istore 6) 2) (tQ 34 (.goto 39) 3))) (tB 39 (tB 37 (tQ 37 (.iload 4) 2) (tP 39 (.iconst 2))) (tB 40 (tQ 40 (.if_icmp .ne 12) 3) (tP 43 (.iconst 1))))) (tB 49 (tB 46 (tB 44 (tQ 44 (.istore 5) 2) (tP 46 (.iconst 3))) (tB 47 (tQ 47 (.istore 6) 2) (tQ 49 (.goto 24) 3))) (tB 54 (tB 52 (tQ 52 (.iload 4) 2) (tP 54 (.iconst 3))) (tB 55 (tQ 55 (.if_icmp .ne 12) 3) (tB 58 (tP 58 (.iconst 2)) (tQ 59 (.istore 5) 2))))))) (tB 92 (tB 73 (tB 67 (tB 62 (tB 61 (tP 61 (.iconst 3)) (tQ 62 (.istore 6) 2)) (tB 64 (tQ 64 (.goto 9) 3) (tP 67 (.iconst 1)))) (tB 70 (tB 68 (tQ 68 (.istore 5) 2) (tP 70 (.iconst 4))) (tB 71 (tQ 71 (.istore 6) 2) (tQ 73 (.iload 4) 2)))) (tB 82 (tB 78 (tB 75 (tQ 75 (.ifCond .ne 7) 3) (tP 78 (.iconst 1))) (tB 79 (tQ 79 (.goto 5) 3) (tQ 82 (.iload 6) 2))) (tB 86 (tB 84 (tQ 84 (.istore 7) 2) (tP 86 (.iload_n 1))) (tB 89 (tP 89 .iand) (tB 90 (tQ 90 (.iload 7) 2) (tP 92 .irem)))))) (tB 112 (tB 101 (tB 98 (tB 93 (tQ 93 (.istore 8) 2) (tP 98 .dup)) (tB 99 (tQ 99 (.iload 5) 2) (tQ 101 (.iload 6) 2))) (tB 108 (tB 106 (tQ 106 (.astore 9) 2) (tQ 108 (.aload 9) 2)) (tB 110 (tQ 110 (.iload 8) 2) (tP 112 (.lload_n 2))))) (tB 122 (tB 118 (tB 116 (tQ 116 (.lstore 10) 2) (tQ 118 (.lload 10) 2)) (tB 120 (tQ 120 (.iload 4) 2) (tQ 122 (.iload 8) 2))) (tB 128 (tB 124 (tP 124 (.lload_n 2)) (tP 128 .lcmp)) (tB 129 (tQ 129 (.ifCond .ne 7) 3) (tB 132 (tP 132 (.iconst 1)) (tQ 133 (.goto 4) 3)))))))
theorem own_ok0:∀ pc q,own_fetch 138 own_t0 pc = some q→decode code pc = .ok q:=own_tab (by decide +kernel)
theorem ef_rm0 (m : MethodId) (p0 : Int32) (p1 : Int32) (q2 : Int64) : entryFrame m #[(.int p0), (.int p1), (.long q2)] maxLocals = mkF m 0 #[.val (.int p0), .val (.int p1), .val (.long q2), .second, .unset, .unset, .unset, .unset, .unset, .unset, .unset, .unset] [] := by first | (simp [entryFrame, mkF, argsToLocals, Value.category, maxLocals]; done) | rfl
def Q0 (Z:State)(p0 p1:Int32)(q2:Int64)(wd:Addr)(kd:ClassId)(h0:Heap)(n0:Nat)(v:Option Value)(h:Heap)(L:List Loc):Prop:=v = some (vI 1)∧Fr n0 L
section Keys
variable {x v u k : Int64} {f g : Nat → List Nat}
def own_rep (x v : Int64) (f : Nat → List Nat) : Prop := ∀ i, i < 64 → v.toBitVec.getLsbD i = (f i).any fun j => x.toBitVec.getLsbD j
theorem own_rx : own_rep x x (fun i => [i]) := fun i _ => by simp
theorem own_r0 : own_rep x 0 (fun _ => []) := fun i _ => by simp
theorem own_ro (a : own_rep x v f) (b : own_rep x u g) : own_rep x (v ||| u) (fun i => f i ++ g i) := fun i h => by
  rw [Int64.toBitVec_or, BitVec.getLsbD_or, a i h, b i h, List.any_append]
theorem own_ra (a : own_rep x v f) (m : Int64) : own_rep x (v &&& m) (fun i => bif m.toBitVec.getLsbD i then f i else []) := fun i h => by
  rw [Int64.toBitVec_and, BitVec.getLsbD_and, a i h]
  cases q : m.toBitVec.getLsbD i <;> simp [q]
theorem own_rl (a : own_rep x v f) (s : Int64) : own_rep x (v <<< s) (fun i => bif Nat.blt i (s.toBitVec.smod 64).toNat then [] else f (i - (s.toBitVec.smod 64).toNat)) := fun i h => by
  rw [Int64.toBitVec_shiftLeft, BitVec.shiftLeft_eq', BitVec.getLsbD_shiftLeft]
  show _ = (bif Nat.blt i (s.toBitVec.smod 64).toNat then [] else f (i - (s.toBitVec.smod 64).toNat)).any _
  generalize (s.toBitVec.smod 64).toNat = n
  by_cases q : i < n
  · have w : Nat.blt i n = true := Nat.ble_eq_true_of_le q
    rw [w, decide_eq_true q]; simp
  · have w : Nat.blt i n = false := by
      cases e : Nat.blt i n
      · rfl
      · exact absurd (Nat.le_of_ble_eq_true e) q
    rw [w, decide_eq_false q, decide_eq_true h, a _ (Nat.lt_of_le_of_lt (Nat.sub_le ..) h)]; rfl
theorem own_ru (a : own_rep x v f) (s : UInt64) : own_rep x ((v.toUInt64 >>> s).toInt64) (fun i => bif Nat.blt ((s.toBitVec % 64).toNat + i) 64 then f ((s.toBitVec % 64).toNat + i) else []) := fun i h => by
  have e : ((v.toUInt64 >>> s).toInt64).toBitVec = v.toBitVec >>> (s.toBitVec % 64).toNat := by
    show (v.toUInt64 >>> s).toBitVec = _
    rw [UInt64.toBitVec_shiftRight, BitVec.ushiftRight_eq']; rfl
  rw [e, BitVec.getLsbD_ushiftRight]
  by_cases q : (s.toBitVec % 64).toNat + i < 64
  · have w : Nat.blt ((s.toBitVec % 64).toNat + i) 64 = true := Nat.ble_eq_true_of_le q
    rw [a _ q]; simp only [w]; rfl
  · have w : Nat.blt ((s.toBitVec % 64).toNat + i) 64 = false := by
      cases e : Nat.blt ((s.toBitVec % 64).toNat + i) 64
      · rfl
      · exact absurd (Nat.le_of_ble_eq_true e) q
    rw [BitVec.getLsbD_of_ge _ _ (Nat.le_of_not_lt q)]; simp only [w]; rfl
def own_fl (f : Nat → List Nat) (s : Int64) : Nat → List Nat := fun i => bif Nat.blt i (s.toBitVec.smod 64).toNat then [] else f (i - (s.toBitVec.smod 64).toNat)
def own_fu (f : Nat → List Nat) (s : UInt64) : Nat → List Nat := fun i => bif Nat.blt ((s.toBitVec % 64).toNat + i) 64 then f ((s.toBitVec % 64).toNat + i) else []
theorem own_rk (a : own_rep x k f) (sh w : Int32) : own_rep x (kf k x sh w) (fun i => own_fl f (w &&& 0x3f).toInt64 i ++ bif (((-1 : Int64).toUInt64 >>> (((64 : Int32) - w) &&& 0x3f).toInt64.toUInt64).toInt64).toBitVec.getLsbD i then own_fu (fun i => [i]) (sh &&& 0x3f).toInt64.toUInt64 i else []) := own_ro (own_rl a _) (own_ra (own_ru own_rx _) _)
theorem own_req (a : own_rep x v f) (b : own_rep x u g) (d : ∀ i, i < 64 → f i = g i) : v = u := Int64.toBitVec_inj.mp (BitVec.eq_of_getLsbD_eq fun i h => by rw [a i h, b i h, d i h])
end Keys
theorem own_key0 (q2 : Int64) : (kf 0 q2 0 64) = q2 := own_req (own_rk own_r0 _ _) own_rx (by decide +kernel)
theorem own_key1 (q2 : Int64) : (kf (kf 0 q2 32 32) q2 0 32) = q2 := own_req (own_rk (own_rk own_r0 _ _) _ _) own_rx (by decide +kernel)
theorem own_key2 (q2 : Int64) : (kf (kf 0 q2 0 32) q2 32 32) = ((q2 <<< ((32 : Int32) &&& 0x3f).toInt64) ||| ((q2.toUInt64 >>> ((32 : Int32) &&& 0x3f).toInt64.toUInt64).toInt64)) := own_req (own_rk (own_rk own_r0 _ _) _ _) (own_ro (own_rl own_rx _) (own_ru own_rx _)) (by decide +kernel)
theorem own_key3 (q2 : Int64) : (kf (kf (kf 0 q2 42 22) q2 21 21) q2 0 21) = q2 := own_req (own_rk (own_rk (own_rk own_r0 _ _) _ _) _ _) own_rx (by decide +kernel)
theorem own_key4 (q2 : Int64) : (kf (kf (kf 0 q2 42 22) q2 0 21) q2 21 21) = (((((q2.toUInt64 >>> ((42 : Int32) &&& 0x3f).toInt64.toUInt64).toInt64) <<< ((42 : Int32) &&& 0x3f).toInt64) ||| ((q2 &&& (2097151 : Int64)) <<< ((21 : Int32) &&& 0x3f).toInt64)) ||| (((q2.toUInt64 >>> ((21 : Int32) &&& 0x3f).toInt64.toUInt64).toInt64) &&& (2097151 : Int64))) := own_req (own_rk (own_rk (own_rk own_r0 _ _) _ _) _ _) (own_ro (own_ro (own_rl (own_ru own_rx _) _) (own_rl (own_ra own_rx _) _)) (own_ra (own_ru own_rx _) _)) (by decide +kernel)
theorem own_key5 (q2 : Int64) : (kf (kf (kf 0 q2 21 21) q2 0 21) q2 42 22) = ((((((q2.toUInt64 >>> ((21 : Int32) &&& 0x3f).toInt64.toUInt64).toInt64) &&& (2097151 : Int64)) <<< ((43 : Int32) &&& 0x3f).toInt64) ||| ((q2 &&& (2097151 : Int64)) <<< ((22 : Int32) &&& 0x3f).toInt64)) ||| ((q2.toUInt64 >>> ((42 : Int32) &&& 0x3f).toInt64.toUInt64).toInt64)) := own_req (own_rk (own_rk (own_rk own_r0 _ _) _ _) _ _) (own_ro (own_ro (own_rl (own_ra (own_ru own_rx _) _) _) (own_rl (own_ra own_rx _) _)) (own_ru own_rx _)) (by decide +kernel)
theorem own_key6 (q2 : Int64) : (kf (kf (kf 0 q2 21 21) q2 42 22) q2 0 21) = ((((((q2.toUInt64 >>> ((21 : Int32) &&& 0x3f).toInt64.toUInt64).toInt64) &&& (2097151 : Int64)) <<< ((43 : Int32) &&& 0x3f).toInt64) ||| (((q2.toUInt64 >>> ((42 : Int32) &&& 0x3f).toInt64.toUInt64).toInt64) <<< ((21 : Int32) &&& 0x3f).toInt64)) ||| (q2 &&& (2097151 : Int64))) := own_req (own_rk (own_rk (own_rk own_r0 _ _) _ _) _ _) (own_ro (own_ro (own_rl (own_ra (own_ru own_rx _) _) _) (own_rl (own_ru own_rx _) _)) (own_ra own_rx _)) (by decide +kernel)
theorem own_key7 (q2 : Int64) : (kf (kf (kf 0 q2 0 21) q2 42 22) q2 21 21) = ((((q2 &&& (2097151 : Int64)) <<< ((43 : Int32) &&& 0x3f).toInt64) ||| (((q2.toUInt64 >>> ((42 : Int32) &&& 0x3f).toInt64.toUInt64).toInt64) <<< ((21 : Int32) &&& 0x3f).toInt64)) ||| (((q2.toUInt64 >>> ((21 : Int32) &&& 0x3f).toInt64.toUInt64).toInt64) &&& (2097151 : Int64))) := own_req (own_rk (own_rk (own_rk own_r0 _ _) _ _) _ _) (own_ro (own_ro (own_rl (own_ra own_rx _) _) (own_rl (own_ru own_rx _) _)) (own_ra (own_ru own_rx _) _)) (by decide +kernel)
theorem own_key8 (q2 : Int64) : (kf (kf (kf (kf 0 q2 48 16) q2 32 16) q2 16 16) q2 0 16) = q2 := own_req (own_rk (own_rk (own_rk (own_rk own_r0 _ _) _ _) _ _) _ _) own_rx (by decide +kernel)
theorem own_key9 (q2 : Int64) : (kf (kf (kf (kf 0 q2 48 16) q2 32 16) q2 0 16) q2 16 16) = ((((((q2.toUInt64 >>> ((48 : Int32) &&& 0x3f).toInt64.toUInt64).toInt64) <<< ((48 : Int32) &&& 0x3f).toInt64) ||| ((((q2.toUInt64 >>> ((32 : Int32) &&& 0x3f).toInt64.toUInt64).toInt64) &&& (65535 : Int64)) <<< ((32 : Int32) &&& 0x3f).toInt64)) ||| ((q2 &&& (65535 : Int64)) <<< ((16 : Int32) &&& 0x3f).toInt64)) ||| (((q2.toUInt64 >>> ((16 : Int32) &&& 0x3f).toInt64.toUInt64).toInt64) &&& (65535 : Int64))) := own_req (own_rk (own_rk (own_rk (own_rk own_r0 _ _) _ _) _ _) _ _) (own_ro (own_ro (own_ro (own_rl (own_ru own_rx _) _) (own_rl (own_ra (own_ru own_rx _) _) _)) (own_rl (own_ra own_rx _) _)) (own_ra (own_ru own_rx _) _)) (by decide +kernel)
theorem own_key10 (q2 : Int64) : (kf (kf (kf (kf 0 q2 48 16) q2 16 16) q2 0 16) q2 32 16) = ((((((q2.toUInt64 >>> ((48 : Int32) &&& 0x3f).toInt64.toUInt64).toInt64) <<< ((48 : Int32) &&& 0x3f).toInt64) ||| ((((q2.toUInt64 >>> ((16 : Int32) &&& 0x3f).toInt64.toUInt64).toInt64) &&& (65535 : Int64)) <<< ((32 : Int32) &&& 0x3f).toInt64)) ||| ((q2 &&& (65535 : Int64)) <<< ((16 : Int32) &&& 0x3f).toInt64)) ||| (((q2.toUInt64 >>> ((32 : Int32) &&& 0x3f).toInt64.toUInt64).toInt64) &&& (65535 : Int64))) := own_req (own_rk (own_rk (own_rk (own_rk own_r0 _ _) _ _) _ _) _ _) (own_ro (own_ro (own_ro (own_rl (own_ru own_rx _) _) (own_rl (own_ra (own_ru own_rx _) _) _)) (own_rl (own_ra own_rx _) _)) (own_ra (own_ru own_rx _) _)) (by decide +kernel)
theorem own_key11 (q2 : Int64) : (kf (kf (kf (kf 0 q2 32 16) q2 16 16) q2 0 16) q2 48 16) = (((((((q2.toUInt64 >>> ((32 : Int32) &&& 0x3f).toInt64.toUInt64).toInt64) &&& (65535 : Int64)) <<< ((48 : Int32) &&& 0x3f).toInt64) ||| ((((q2.toUInt64 >>> ((16 : Int32) &&& 0x3f).toInt64.toUInt64).toInt64) &&& (65535 : Int64)) <<< ((32 : Int32) &&& 0x3f).toInt64)) ||| ((q2 &&& (65535 : Int64)) <<< ((16 : Int32) &&& 0x3f).toInt64)) ||| ((q2.toUInt64 >>> ((48 : Int32) &&& 0x3f).toInt64.toUInt64).toInt64)) := own_req (own_rk (own_rk (own_rk (own_rk own_r0 _ _) _ _) _ _) _ _) (own_ro (own_ro (own_ro (own_rl (own_ra (own_ru own_rx _) _) _) (own_rl (own_ra (own_ru own_rx _) _) _)) (own_rl (own_ra own_rx _) _)) (own_ru own_rx _)) (by decide +kernel)
set_option maxRecDepth 65536 in
set_option maxHeartbeats 40000000 in
theorem rm0 (l:Launch)(Z:State)(a0:Array Value)(hw:HW a0 Z)(ws:List Jvm.Cond)(p0 p1:Int32)(q2:Int64)(wd:Addr)(kd:ClassId)(h0:Heap)(n0:Nat)(Z0:n0≤h0.size)(S_d:Sta Z h0 "java/util/ArrayList" "DEFAULTCAPACITY_EMPTY_ELEMENTDATA" "[Ljava/lang/Object;" (vR wd))(V_d:Arv Z h0 wd kd (.object oOb) 0 [] .null) :
    MetFree l x (head1 (Jvm.Cond.code x code maxLocals ret :: ws) room_1) (fun a U=>a = #[(.int p0),(.int p1),(.long q2)]∧Z.Warmed39 U.vm∧U.heap = h0) (fun _ _ _ _ _=>True) (fun _ U o U'=>∃ v L,o = .returned v∧Q0 Z p0 p1 q2 wd kd h0 n0 v U'.heap L∧FrameEnd U o U' L room_1.cells room_1.slots):=by
  refine MetFree.of_bodySF (plainFor_of_name pn_1) hisR ?_
  intro p e s m args below meth c s₁ Bd hml0 hP hK
  obtain ⟨rfl,hZ,hh⟩:=hP
  have hx:=Bd.exec
  have hby:=Bd.bytes
  have hml:c.maxLocals = 12:=hml0
  have hown:s.vm.findClass "com/example/libakin/libakin/simhash/LayoutKeyPinLaw" = some m.cls:=findClass_of_methodNamed Bd.named
  have hnm:=(name_of_methodNamed Bd.named Bd.method).1
  have X0:Stand p l e room_1 s m #[(.int p0),(.int p1),(.long q2)] below meth c s₁ [] 0 0:=Stand.of_body Bd
  have e0:s₁.heap = h0:=by rw [← hh,Bd.state]; rfl
  have N0:=Fr.nil n0
  have tt:=own_tt hx hby own_ok0
  show own_Ends p e below s (Q0 Z p0 p1 q2 wd kd h0 n0) _ _ s₁ _
  rw [ef_rm0 m p0 p1 q2]
  refine oG X0 tt 1 1 #[.val (.int p0),.val (.int p1),oQ q2,oS,oU,oU,oU,oU,oU,oU,oU,oU] [(.int p0)] rfl ?_
  refine own_go (T':=s₁) (f':=(mkF m 5 #[.val (.int p0),.val (.int p1),oQ q2,oS,oU,oU,oU,oU,oU,oU,oU,oU] [vI 5,(.int (p0 &&& (2147483647:Int32)))])) (fun _ k=>X0.ldcInt hx hown (mvT hZ (ow0 hw)) (g:=(mkF m 1 #[.val (.int p0),.val (.int p1),oQ q2,oS,oU,oU,oU,oU,oU,oU,oU,oU] [(.int p0)])) rfl (hb hby at_1) _ (own_e X0 tt 3 2 k rfl)) ?_
  refine own_go (T':=s₁) (f':=(mkF m 8 #[.val (.int p0),.val (.int p1),oQ q2,oS,.val (.int ((p0 &&& (2147483647:Int32)) % (5:Int32))),oU,oU,oU,oU,oU,oU,oU] [])) (fun _ k=>iremM X0 hx rfl (hb hby at_5) rfl (by decide) (own_e X0 tt 6 1 k rfl)) ?_
  generalize hzsel:((p0 &&& (2147483647:Int32)) % (5:Int32)) = zsel
  have hsel:=own_m5 p0
  rw [hzsel] at hsel
  rcases hsel with rfl | rfl | rfl | rfl | rfl
  · refine oG X0 tt 13 87 #[.val (.int p0),.val (.int p1),oQ q2,oS,oI 0,oI 0,oI 1,oI 1,oU,oU,oU,oU] [(.int p1)] rfl ?_
    refine own_go (T':=s₁) (f':=(mkF m 92 #[.val (.int p0),.val (.int p1),oQ q2,oS,oI 0,oI 0,oI 1,oI 1,oU,oU,oU,oU] [vI 1,(.int (p1 &&& (2147483647:Int32)))])) (fun _ k=>X0.ldcInt hx hown (mvT hZ (ow0 hw)) (g:=(mkF m 87 #[.val (.int p0),.val (.int p1),oQ q2,oS,oI 0,oI 0,oI 1,oI 1,oU,oU,oU,oU] [(.int p1)])) rfl (hb hby at_87) _ (own_e X0 tt 89 2 k rfl)) ?_
    refine own_go (T':=s₁) (f':=(mkF m 95 #[.val (.int p0),.val (.int p1),oQ q2,oS,oI 0,oI 0,oI 1,oI 1,.val (.int ((p1 &&& (2147483647:Int32)) % (1:Int32))),oU,oU,oU] [])) (fun _ k=>iremM X0 hx rfl (hb hby at_92) rfl (by decide) (own_e X0 tt 93 1 k rfl)) ?_
    generalize hzt:((p1 &&& (2147483647:Int32)) % (1:Int32)) = zt
    obtain ⟨T1,h1,X1,e1,E1,A1,D1,-,st1⟩:=newO X0 hx hZ hown (ow1 hw) (ow2 hw) (ow3 hw) e0 (g:=(mkF m 95 #[.val (.int p0),.val (.int p1),oQ q2,oS,oI 0,oI 0,oI 1,oI 1,.val (.int zt),oU,oU,oU] [])) rfl (hb hby at_95) (by decide) (by decide)
    obtain ⟨b1,g_b1⟩:∃ z,z = h0.size:=⟨_,rfl⟩
    have sg_b1:h0.size≤b1:=Nat.le_of_eq g_b1.symm
    rw [← g_b1] at A1 D1 st1
    have n_b1:=oT Z0 sg_b1
    have sz_b1:=oT (Keep.refl h0 []).1 sg_b1
    have K1:Keep h0 h1 []:=(Keep.refl h0 []).ext E1
    have F_fromShifts_b1:oF3 Z h1 b1 .null:=D1 (Or.inr (ow93 hw)) (ty:=(.array (.array .int))) (by decide)
    have F_widths_b1:oF4 Z h1 b1 .null:=D1 (Or.inr (ow95 hw)) (ty:=(.array (.array .int))) (by decide)
    have F_prefixes_b1:oF5 Z h1 b1 .null:=D1 (Or.inr (ow97 hw)) (ty:=(.array .int)) (by decide)
    have F_earlierPrefixes_b1:oF6 Z h1 b1 .null:=D1 (Or.inr (ow123 hw)) (ty:=(.array (.array .long))) (by decide)
    refine oH st1 X1 tt 3 103 #[.val (.int p0),.val (.int p1),oQ q2,oS,oI 0,oI 0,oI 1,oI 1,.val (.int zt),oU,oU,oU] [vI 1,vI 0,vR b1,vR b1] rfl ?_
    refine own_cN X1 hx hZ hown e1 rfl (ow4 hw) (ow5 hw) (ow3 hw) (ow6 hw) (y:=mn17) (b:=b1) (argsL:=[vI 0,vI 1]) (rest:=[vR b1]) (W:=1) hml.symm (hb hby at_103) (lenOf pd8 rfl) rfl (by decide) (rm1a1 l Z a0 hw [] b1 wd kd h1 n0 (oT Z0 E1.1) (S_d.ext E1) (V_d.ext E1) A1 F_fromShifts_b1 F_widths_b1 F_prefixes_b1 F_earlierPrefixes_b1 n_b1) fun _ T45 _ X45 hQ45=>?_
    obtain ⟨b45a,k45b,b45c,k45d,b45e,k45f,b45g,k45h,rfl,N45q,K45,n_b45a,sg_b45a,n_b45c,sg_b45c,n_b45e,sg_b45e,n_b45g,sg_b45g,ne45_0,ne45_1,ne45_2,ne45_3,ne45_4,ne45_5,g45_0,g45_1,g45_2,g45_3,g45_4,g45_5,g45_6,g45_7,g45_8,g45_9,g45_10,g45_11⟩:=hQ45
    have N45:=Fr.app N0 N45q
    have sz_b45a:=oT K1.1 sg_b45a
    have sz_b45c:=oT K1.1 sg_b45c
    have sz_b45e:=oT K1.1 sg_b45e
    have sz_b45g:=oT K1.1 sg_b45g
    have u46:b1 < h1.size:=A1.lt
    have m47:h0.size≤h1.size:=(oT (Nat.le_refl _) E1.1)
    have eK45:T45.heap = T45.heap:=rfl
    have KK45:Keep h0 T45.heap []:=Keep.trans K1 K45 (allS (Or.inr sz_b1) all0)
    obtain ⟨_,X45,N45⟩:=own_hide X45 N45
    refine oV 106 #[.val (.int p0),.val (.int p1),oQ q2,oS,oI 0,oI 0,oI 1,oI 1,.val (.int zt),oU,oU,oU] [vR b1] ?_
    refine oG X45 tt 1 108 #[.val (.int p0),.val (.int p1),oQ q2,oS,oI 0,oI 0,oI 1,oI 1,.val (.int zt),oR b1,oU,oU] [] rfl ?_
    have ht48:=own_m1 p1
    rw [hzt] at ht48
    subst ht48
    refine oG X45 tt 3 113 #[.val (.int p0),.val (.int p1),oQ q2,oS,oI 0,oI 0,oI 1,oI 1,oI 0,oR b1,oU,oU] [(.long q2),vI 0,vR b1] rfl ?_
    refine own_cV X45 hx hZ hown eK45 (ow126 hw) (ow127 hw) (notFace_of_selects (args:=#[]) (mvT hZ (ow129 hw))) (ow129 hw) (ow128 hw) (ow3 hw) (ow130 hw) (A1.keep K45) (y:=mn18) (z:=mn18) (argsL:=[vI 0,(.long q2)]) (rest:=[]) (W:=0) hml.symm (hb hby at_113) (lenOf pd12 rfl) rfl (by decide) (rm17a17 l Z a0 hw [] b1 q2 b45a b45e k45b b45c k45d k45f b45g k45h T45.heap n0 (oT (oT Z0 E1.1) K45.1) g45_0 g45_1 g45_2 g45_5 g45_7 g45_10) fun _ T49 _ X49 hQ49=>?_
    obtain ⟨rfl,N49q,hh49⟩:=hQ49
    have N49:=Fr.app N45 N49q
    obtain ⟨_,X49,N49⟩:=own_hide X49 N49
    refine oV 116 #[.val (.int p0),.val (.int p1),oQ q2,oS,oI 0,oI 0,oI 1,oI 1,oI 0,oR b1,oU,oU] [(.long (kf 0 q2 0 64))] ?_
    generalize hzk50:(kf 0 q2 0 64) = zk50
    refine oG X49 tt 5 125 #[.val (.int p0),.val (.int p1),oQ q2,oS,oI 0,oI 0,oI 1,oI 1,oI 0,oR b1,oQ zk50,oS] [(.long q2),vI 0,vI 0,(.long zk50)] rfl ?_
    refine own_cS X49 hx hZ hown hh49 (ow132 hw) (ow133 hw) (ow134 hw) (ow135 hw) (y:=mn19) (argsL:=[vI 0,vI 0,(.long q2)]) (rest:=[(.long zk50)]) (W:=2) hml.symm (hb hby at_125) (lenOf pd10 rfl) rfl (by decide) (rm18a18 l Z a0 hw [] q2 T45.heap n0 (oT (oT Z0 E1.1) K45.1) ) fun _ T51 _ X51 hQ51=>?_
    obtain ⟨rfl,N51q,hh51⟩:=hQ51
    have N51:=Fr.app N49 N51q
    obtain ⟨_,X51,N51⟩:=own_hide X51 N51
    refine oV 128 #[.val (.int p0),.val (.int p1),oQ q2,oS,oI 0,oI 0,oI 1,oI 1,oI 0,oR b1,oQ zk50,oS] [(.long q2),(.long zk50)] ?_
    refine oG X51 tt 1 129 #[.val (.int p0),.val (.int p1),oQ q2,oS,oI 0,oI 0,oI 1,oI 1,oI 0,oR b1,oQ zk50,oS] [(.int (lcmpW zk50 q2))] rfl ?_
    refine own_go (T':=T51) (f':=(mkF m 137 #[.val (.int p0),.val (.int p1),oQ q2,oS,oI 0,oI 0,oI 1,oI 1,oI 0,oR b1,oQ zk50,oS] [vI 1])) (fun _ k=>XS.ifNo X51.here hx rfl (hb hby at_129) rfl ((if0 _ _).trans (teq ((own_lc_eq (a:=zk50) (b:=q2)).mpr (hzk50.symm.trans (own_key0 q2)))).2) (own_e X51 tt 132 2 k rfl)) ?_
    refine own_ret X51 (v:=some (vI 1)) (oN Bd.returns) Bd.notSynchronized (fun fs hr=>retN X51 hx (t:=.boolean) Bd.returns (by simp) (hb hby at_137) hr) ?_ (by decide) (by decide)
    unfold Q0
    exact ⟨rfl,N51⟩
  · refine oG X0 tt 15 87 #[.val (.int p0),.val (.int p1),oQ q2,oS,oI 1,oI 1,oI 2,oI 2,oU,oU,oU,oU] [(.int p1)] rfl ?_
    refine own_go (T':=s₁) (f':=(mkF m 92 #[.val (.int p0),.val (.int p1),oQ q2,oS,oI 1,oI 1,oI 2,oI 2,oU,oU,oU,oU] [vI 2,(.int (p1 &&& (2147483647:Int32)))])) (fun _ k=>X0.ldcInt hx hown (mvT hZ (ow0 hw)) (g:=(mkF m 87 #[.val (.int p0),.val (.int p1),oQ q2,oS,oI 1,oI 1,oI 2,oI 2,oU,oU,oU,oU] [(.int p1)])) rfl (hb hby at_87) _ (own_e X0 tt 89 2 k rfl)) ?_
    refine own_go (T':=s₁) (f':=(mkF m 95 #[.val (.int p0),.val (.int p1),oQ q2,oS,oI 1,oI 1,oI 2,oI 2,.val (.int ((p1 &&& (2147483647:Int32)) % (2:Int32))),oU,oU,oU] [])) (fun _ k=>iremM X0 hx rfl (hb hby at_92) rfl (by decide) (own_e X0 tt 93 1 k rfl)) ?_
    generalize hzt:((p1 &&& (2147483647:Int32)) % (2:Int32)) = zt
    obtain ⟨T52,h52,X52,e52,E52,A52,D52,-,st52⟩:=newO X0 hx hZ hown (ow1 hw) (ow2 hw) (ow3 hw) e0 (g:=(mkF m 95 #[.val (.int p0),.val (.int p1),oQ q2,oS,oI 1,oI 1,oI 2,oI 2,.val (.int zt),oU,oU,oU] [])) rfl (hb hby at_95) (by decide) (by decide)
    obtain ⟨b52,g_b52⟩:∃ z,z = h0.size:=⟨_,rfl⟩
    have sg_b52:h0.size≤b52:=Nat.le_of_eq g_b52.symm
    rw [← g_b52] at A52 D52 st52
    have n_b52:=oT Z0 sg_b52
    have sz_b52:=oT (Keep.refl h0 []).1 sg_b52
    have K52:Keep h0 h52 []:=(Keep.refl h0 []).ext E52
    have F_fromShifts_b52:oF3 Z h52 b52 .null:=D52 (Or.inr (ow93 hw)) (ty:=(.array (.array .int))) (by decide)
    have F_widths_b52:oF4 Z h52 b52 .null:=D52 (Or.inr (ow95 hw)) (ty:=(.array (.array .int))) (by decide)
    have F_prefixes_b52:oF5 Z h52 b52 .null:=D52 (Or.inr (ow97 hw)) (ty:=(.array .int)) (by decide)
    have F_earlierPrefixes_b52:oF6 Z h52 b52 .null:=D52 (Or.inr (ow123 hw)) (ty:=(.array (.array .long))) (by decide)
    refine oH st52 X52 tt 3 103 #[.val (.int p0),.val (.int p1),oQ q2,oS,oI 1,oI 1,oI 2,oI 2,.val (.int zt),oU,oU,oU] [vI 2,vI 1,vR b52,vR b52] rfl ?_
    refine own_cN X52 hx hZ hown e52 rfl (ow4 hw) (ow5 hw) (ow3 hw) (ow6 hw) (y:=mn17) (b:=b52) (argsL:=[vI 1,vI 2]) (rest:=[vR b52]) (W:=1) hml.symm (hb hby at_103) (lenOf pd8 rfl) rfl (by decide) (rm1a19 l Z a0 hw [] b52 wd kd h52 n0 (oT Z0 E52.1) (S_d.ext E52) (V_d.ext E52) A52 F_fromShifts_b52 F_widths_b52 F_prefixes_b52 F_earlierPrefixes_b52 n_b52) fun _ T53 _ X53 hQ53=>?_
    obtain ⟨b53a,k53b,b53c,k53d,b53e,b53f,k53g,b53h,k53i,b53j,rfl,N53q,K53,n_b53a,sg_b53a,n_b53c,sg_b53c,n_b53e,sg_b53e,n_b53f,sg_b53f,n_b53h,sg_b53h,n_b53j,sg_b53j,ne53_0,ne53_1,ne53_2,ne53_3,ne53_4,ne53_5,ne53_6,ne53_7,ne53_8,ne53_9,ne53_10,ne53_11,ne53_12,ne53_13,ne53_14,g53_0,g53_1,g53_2,g53_3,g53_4,g53_5,g53_6,g53_7,g53_8,g53_9,g53_10,g53_11,g53_12,g53_13,g53_14,g53_15⟩:=hQ53
    have N53:=Fr.app N0 N53q
    have sz_b53a:=oT K52.1 sg_b53a
    have sz_b53c:=oT K52.1 sg_b53c
    have sz_b53e:=oT K52.1 sg_b53e
    have sz_b53f:=oT K52.1 sg_b53f
    have sz_b53h:=oT K52.1 sg_b53h
    have sz_b53j:=oT K52.1 sg_b53j
    have u54:b52 < h52.size:=A52.lt
    have m55:h0.size≤h52.size:=(oT (Nat.le_refl _) E52.1)
    have eK53:T53.heap = T53.heap:=rfl
    have KK53:Keep h0 T53.heap []:=Keep.trans K52 K53 (allS (Or.inr sz_b52) all0)
    obtain ⟨_,X53,N53⟩:=own_hide X53 N53
    refine oV 106 #[.val (.int p0),.val (.int p1),oQ q2,oS,oI 1,oI 1,oI 2,oI 2,.val (.int zt),oU,oU,oU] [vR b52] ?_
    refine oG X53 tt 1 108 #[.val (.int p0),.val (.int p1),oQ q2,oS,oI 1,oI 1,oI 2,oI 2,.val (.int zt),oR b52,oU,oU] [] rfl ?_
    have ht56:=own_m2 p1
    rw [hzt] at ht56
    rcases ht56 with rfl | rfl
    · refine oG X53 tt 3 113 #[.val (.int p0),.val (.int p1),oQ q2,oS,oI 1,oI 1,oI 2,oI 2,oI 0,oR b52,oU,oU] [(.long q2),vI 0,vR b52] rfl ?_
      refine own_cV X53 hx hZ hown eK53 (ow126 hw) (ow127 hw) (notFace_of_selects (args:=#[]) (mvT hZ (ow129 hw))) (ow129 hw) (ow128 hw) (ow3 hw) (ow130 hw) (A52.keep K53) (y:=mn18) (z:=mn18) (argsL:=[vI 0,(.long q2)]) (rest:=[]) (W:=0) hml.symm (hb hby at_113) (lenOf pd12 rfl) rfl (by decide) (rm17a36 l Z a0 hw [] b52 q2 b53a b53f k53b b53c b53e k53d k53g b53h b53j k53i T53.heap n0 (oT (oT Z0 E52.1) K53.1) g53_0 g53_1 g53_2 g53_5 g53_9 g53_12) fun _ T57 _ X57 hQ57=>?_
      obtain ⟨rfl,N57q,hh57⟩:=hQ57
      have N57:=Fr.app N53 N57q
      obtain ⟨_,X57,N57⟩:=own_hide X57 N57
      refine oV 116 #[.val (.int p0),.val (.int p1),oQ q2,oS,oI 1,oI 1,oI 2,oI 2,oI 0,oR b52,oU,oU] [(.long (kf (kf 0 q2 32 32) q2 0 32))] ?_
      generalize hzk58:(kf (kf 0 q2 32 32) q2 0 32) = zk58
      refine oG X57 tt 5 125 #[.val (.int p0),.val (.int p1),oQ q2,oS,oI 1,oI 1,oI 2,oI 2,oI 0,oR b52,oQ zk58,oS] [(.long q2),vI 0,vI 1,(.long zk58)] rfl ?_
      refine own_cS X57 hx hZ hown hh57 (ow132 hw) (ow133 hw) (ow134 hw) (ow135 hw) (y:=mn19) (argsL:=[vI 1,vI 0,(.long q2)]) (rest:=[(.long zk58)]) (W:=2) hml.symm (hb hby at_125) (lenOf pd10 rfl) rfl (by decide) (rm18a37 l Z a0 hw [] q2 T53.heap n0 (oT (oT Z0 E52.1) K53.1) ) fun _ T59 _ X59 hQ59=>?_
      obtain ⟨rfl,N59q,hh59⟩:=hQ59
      have N59:=Fr.app N57 N59q
      obtain ⟨_,X59,N59⟩:=own_hide X59 N59
      refine oV 128 #[.val (.int p0),.val (.int p1),oQ q2,oS,oI 1,oI 1,oI 2,oI 2,oI 0,oR b52,oQ zk58,oS] [(.long q2),(.long zk58)] ?_
      refine oG X59 tt 1 129 #[.val (.int p0),.val (.int p1),oQ q2,oS,oI 1,oI 1,oI 2,oI 2,oI 0,oR b52,oQ zk58,oS] [(.int (lcmpW zk58 q2))] rfl ?_
      refine own_go (T':=T59) (f':=(mkF m 137 #[.val (.int p0),.val (.int p1),oQ q2,oS,oI 1,oI 1,oI 2,oI 2,oI 0,oR b52,oQ zk58,oS] [vI 1])) (fun _ k=>XS.ifNo X59.here hx rfl (hb hby at_129) rfl ((if0 _ _).trans (teq ((own_lc_eq (a:=zk58) (b:=q2)).mpr (hzk58.symm.trans (own_key1 q2)))).2) (own_e X59 tt 132 2 k rfl)) ?_
      refine own_ret X59 (v:=some (vI 1)) (oN Bd.returns) Bd.notSynchronized (fun fs hr=>retN X59 hx (t:=.boolean) Bd.returns (by simp) (hb hby at_137) hr) ?_ (by decide) (by decide)
      unfold Q0
      exact ⟨rfl,N59⟩
    · refine oG X53 tt 3 113 #[.val (.int p0),.val (.int p1),oQ q2,oS,oI 1,oI 1,oI 2,oI 2,oI 1,oR b52,oU,oU] [(.long q2),vI 1,vR b52] rfl ?_
      refine own_cV X53 hx hZ hown eK53 (ow126 hw) (ow127 hw) (notFace_of_selects (args:=#[]) (mvT hZ (ow129 hw))) (ow129 hw) (ow128 hw) (ow3 hw) (ow130 hw) (A52.keep K53) (y:=mn18) (z:=mn18) (argsL:=[vI 1,(.long q2)]) (rest:=[]) (W:=0) hml.symm (hb hby at_113) (lenOf pd12 rfl) rfl (by decide) (rm17a35 l Z a0 hw [] b52 q2 b53a b53f k53b b53c b53e k53d k53g b53h b53j k53i T53.heap n0 (oT (oT Z0 E52.1) K53.1) g53_0 g53_1 g53_2 g53_7 g53_9 g53_14) fun _ T60 _ X60 hQ60=>?_
      obtain ⟨rfl,N60q,hh60⟩:=hQ60
      have N60:=Fr.app N53 N60q
      obtain ⟨_,X60,N60⟩:=own_hide X60 N60
      refine oV 116 #[.val (.int p0),.val (.int p1),oQ q2,oS,oI 1,oI 1,oI 2,oI 2,oI 1,oR b52,oU,oU] [(.long (kf (kf 0 q2 0 32) q2 32 32))] ?_
      generalize hzk61:(kf (kf 0 q2 0 32) q2 32 32) = zk61
      refine oG X60 tt 5 125 #[.val (.int p0),.val (.int p1),oQ q2,oS,oI 1,oI 1,oI 2,oI 2,oI 1,oR b52,oQ zk61,oS] [(.long q2),vI 1,vI 1,(.long zk61)] rfl ?_
      refine own_cS X60 hx hZ hown hh60 (ow132 hw) (ow133 hw) (ow134 hw) (ow135 hw) (y:=mn19) (argsL:=[vI 1,vI 1,(.long q2)]) (rest:=[(.long zk61)]) (W:=2) hml.symm (hb hby at_125) (lenOf pd10 rfl) rfl (by decide) (rm18a38 l Z a0 hw [] q2 T53.heap n0 (oT (oT Z0 E52.1) K53.1) ) fun _ T62 _ X62 hQ62=>?_
      obtain ⟨rfl,N62q,hh62⟩:=hQ62
      have N62:=Fr.app N60 N62q
      obtain ⟨_,X62,N62⟩:=own_hide X62 N62
      refine oV 128 #[.val (.int p0),.val (.int p1),oQ q2,oS,oI 1,oI 1,oI 2,oI 2,oI 1,oR b52,oQ zk61,oS] [(.long ((q2 <<< ((32:Int32) &&& 0x3f).toInt64) ||| ((q2.toUInt64 >>> ((32:Int32) &&& 0x3f).toInt64.toUInt64).toInt64))),(.long zk61)] ?_
      generalize hzk63:((q2 <<< ((32:Int32) &&& 0x3f).toInt64) ||| ((q2.toUInt64 >>> ((32:Int32) &&& 0x3f).toInt64.toUInt64).toInt64)) = zk63
      refine oG X62 tt 1 129 #[.val (.int p0),.val (.int p1),oQ q2,oS,oI 1,oI 1,oI 2,oI 2,oI 1,oR b52,oQ zk61,oS] [(.int (lcmpW zk61 zk63))] rfl ?_
      refine own_go (T':=T62) (f':=(mkF m 137 #[.val (.int p0),.val (.int p1),oQ q2,oS,oI 1,oI 1,oI 2,oI 2,oI 1,oR b52,oQ zk61,oS] [vI 1])) (fun _ k=>XS.ifNo X62.here hx rfl (hb hby at_129) rfl ((if0 _ _).trans (teq ((own_lc_eq (a:=zk61) (b:=zk63)).mpr (hzk61.symm.trans ((own_key2 q2).trans hzk63)))).2) (own_e X62 tt 132 2 k rfl)) ?_
      refine own_ret X62 (v:=some (vI 1)) (oN Bd.returns) Bd.notSynchronized (fun fs hr=>retN X62 hx (t:=.boolean) Bd.returns (by simp) (hb hby at_137) hr) ?_ (by decide) (by decide)
      unfold Q0
      exact ⟨rfl,N62⟩
  · refine oG X0 tt 18 87 #[.val (.int p0),.val (.int p1),oQ q2,oS,oI 2,oI 1,oI 3,oI 3,oU,oU,oU,oU] [(.int p1)] rfl ?_
    refine own_go (T':=s₁) (f':=(mkF m 92 #[.val (.int p0),.val (.int p1),oQ q2,oS,oI 2,oI 1,oI 3,oI 3,oU,oU,oU,oU] [vI 3,(.int (p1 &&& (2147483647:Int32)))])) (fun _ k=>X0.ldcInt hx hown (mvT hZ (ow0 hw)) (g:=(mkF m 87 #[.val (.int p0),.val (.int p1),oQ q2,oS,oI 2,oI 1,oI 3,oI 3,oU,oU,oU,oU] [(.int p1)])) rfl (hb hby at_87) _ (own_e X0 tt 89 2 k rfl)) ?_
    refine own_go (T':=s₁) (f':=(mkF m 95 #[.val (.int p0),.val (.int p1),oQ q2,oS,oI 2,oI 1,oI 3,oI 3,.val (.int ((p1 &&& (2147483647:Int32)) % (3:Int32))),oU,oU,oU] [])) (fun _ k=>iremM X0 hx rfl (hb hby at_92) rfl (by decide) (own_e X0 tt 93 1 k rfl)) ?_
    generalize hzt:((p1 &&& (2147483647:Int32)) % (3:Int32)) = zt
    obtain ⟨T64,h64,X64,e64,E64,A64,D64,-,st64⟩:=newO X0 hx hZ hown (ow1 hw) (ow2 hw) (ow3 hw) e0 (g:=(mkF m 95 #[.val (.int p0),.val (.int p1),oQ q2,oS,oI 2,oI 1,oI 3,oI 3,.val (.int zt),oU,oU,oU] [])) rfl (hb hby at_95) (by decide) (by decide)
    obtain ⟨b64,g_b64⟩:∃ z,z = h0.size:=⟨_,rfl⟩
    have sg_b64:h0.size≤b64:=Nat.le_of_eq g_b64.symm
    rw [← g_b64] at A64 D64 st64
    have n_b64:=oT Z0 sg_b64
    have sz_b64:=oT (Keep.refl h0 []).1 sg_b64
    have K64:Keep h0 h64 []:=(Keep.refl h0 []).ext E64
    have F_fromShifts_b64:oF3 Z h64 b64 .null:=D64 (Or.inr (ow93 hw)) (ty:=(.array (.array .int))) (by decide)
    have F_widths_b64:oF4 Z h64 b64 .null:=D64 (Or.inr (ow95 hw)) (ty:=(.array (.array .int))) (by decide)
    have F_prefixes_b64:oF5 Z h64 b64 .null:=D64 (Or.inr (ow97 hw)) (ty:=(.array .int)) (by decide)
    have F_earlierPrefixes_b64:oF6 Z h64 b64 .null:=D64 (Or.inr (ow123 hw)) (ty:=(.array (.array .long))) (by decide)
    refine oH st64 X64 tt 3 103 #[.val (.int p0),.val (.int p1),oQ q2,oS,oI 2,oI 1,oI 3,oI 3,.val (.int zt),oU,oU,oU] [vI 3,vI 1,vR b64,vR b64] rfl ?_
    refine own_cN X64 hx hZ hown e64 rfl (ow4 hw) (ow5 hw) (ow3 hw) (ow6 hw) (y:=mn17) (b:=b64) (argsL:=[vI 1,vI 3]) (rest:=[vR b64]) (W:=1) hml.symm (hb hby at_103) (lenOf pd8 rfl) rfl (by decide) (rm1a39 l Z a0 hw [] b64 wd kd h64 n0 (oT Z0 E64.1) (S_d.ext E64) (V_d.ext E64) A64 F_fromShifts_b64 F_widths_b64 F_prefixes_b64 F_earlierPrefixes_b64 n_b64) fun _ T65 _ X65 hQ65=>?_
    obtain ⟨b65a,k65b,b65c,k65d,b65e,b65f,b65g,k65h,b65i,k65j,b65k,b65l,rfl,N65q,K65,n_b65a,sg_b65a,n_b65c,sg_b65c,n_b65e,sg_b65e,n_b65f,sg_b65f,n_b65g,sg_b65g,n_b65i,sg_b65i,n_b65k,sg_b65k,n_b65l,sg_b65l,ne65_0,ne65_1,ne65_2,ne65_3,ne65_4,ne65_5,ne65_6,ne65_7,ne65_8,ne65_9,ne65_10,ne65_11,ne65_12,ne65_13,ne65_14,ne65_15,ne65_16,ne65_17,ne65_18,ne65_19,ne65_20,ne65_21,ne65_22,ne65_23,ne65_24,ne65_25,ne65_26,ne65_27,g65_0,g65_1,g65_2,g65_3,g65_4,g65_5,g65_6,g65_7,g65_8,g65_9,g65_10,g65_11,g65_12,g65_13,g65_14,g65_15,g65_16,g65_17,g65_18,g65_19⟩:=hQ65
    have N65:=Fr.app N0 N65q
    have sz_b65a:=oT K64.1 sg_b65a
    have sz_b65c:=oT K64.1 sg_b65c
    have sz_b65e:=oT K64.1 sg_b65e
    have sz_b65f:=oT K64.1 sg_b65f
    have sz_b65g:=oT K64.1 sg_b65g
    have sz_b65i:=oT K64.1 sg_b65i
    have sz_b65k:=oT K64.1 sg_b65k
    have sz_b65l:=oT K64.1 sg_b65l
    have u66:b64 < h64.size:=A64.lt
    have m67:h0.size≤h64.size:=(oT (Nat.le_refl _) E64.1)
    have eK65:T65.heap = T65.heap:=rfl
    have KK65:Keep h0 T65.heap []:=Keep.trans K64 K65 (allS (Or.inr sz_b64) all0)
    obtain ⟨_,X65,N65⟩:=own_hide X65 N65
    refine oV 106 #[.val (.int p0),.val (.int p1),oQ q2,oS,oI 2,oI 1,oI 3,oI 3,.val (.int zt),oU,oU,oU] [vR b64] ?_
    refine oG X65 tt 1 108 #[.val (.int p0),.val (.int p1),oQ q2,oS,oI 2,oI 1,oI 3,oI 3,.val (.int zt),oR b64,oU,oU] [] rfl ?_
    have ht68:=own_m3 p1
    rw [hzt] at ht68
    rcases ht68 with rfl | rfl | rfl
    · refine oG X65 tt 3 113 #[.val (.int p0),.val (.int p1),oQ q2,oS,oI 2,oI 1,oI 3,oI 3,oI 0,oR b64,oU,oU] [(.long q2),vI 0,vR b64] rfl ?_
      refine own_cV X65 hx hZ hown eK65 (ow126 hw) (ow127 hw) (notFace_of_selects (args:=#[]) (mvT hZ (ow129 hw))) (ow129 hw) (ow128 hw) (ow3 hw) (ow130 hw) (A64.keep K65) (y:=mn18) (z:=mn18) (argsL:=[vI 0,(.long q2)]) (rest:=[]) (W:=0) hml.symm (hb hby at_113) (lenOf pd12 rfl) rfl (by decide) (rm17a65 l Z a0 hw [] b64 q2 b65a b65g k65b b65c b65e b65f k65d k65h b65i b65k b65l k65j T65.heap n0 (oT (oT Z0 E64.1) K65.1) g65_0 g65_1 g65_2 g65_5 g65_11 g65_14) fun _ T69 _ X69 hQ69=>?_
      obtain ⟨rfl,N69q,hh69⟩:=hQ69
      have N69:=Fr.app N65 N69q
      obtain ⟨_,X69,N69⟩:=own_hide X69 N69
      refine oV 116 #[.val (.int p0),.val (.int p1),oQ q2,oS,oI 2,oI 1,oI 3,oI 3,oI 0,oR b64,oU,oU] [(.long (kf (kf (kf 0 q2 42 22) q2 21 21) q2 0 21))] ?_
      generalize hzk70:(kf (kf (kf 0 q2 42 22) q2 21 21) q2 0 21) = zk70
      refine oG X69 tt 5 125 #[.val (.int p0),.val (.int p1),oQ q2,oS,oI 2,oI 1,oI 3,oI 3,oI 0,oR b64,oQ zk70,oS] [(.long q2),vI 0,vI 2,(.long zk70)] rfl ?_
      refine own_cS X69 hx hZ hown hh69 (ow132 hw) (ow133 hw) (ow134 hw) (ow135 hw) (y:=mn19) (argsL:=[vI 2,vI 0,(.long q2)]) (rest:=[(.long zk70)]) (W:=2) hml.symm (hb hby at_125) (lenOf pd10 rfl) rfl (by decide) (rm18a66 l Z a0 hw [] q2 T65.heap n0 (oT (oT Z0 E64.1) K65.1) ) fun _ T71 _ X71 hQ71=>?_
      obtain ⟨rfl,N71q,hh71⟩:=hQ71
      have N71:=Fr.app N69 N71q
      obtain ⟨_,X71,N71⟩:=own_hide X71 N71
      refine oV 128 #[.val (.int p0),.val (.int p1),oQ q2,oS,oI 2,oI 1,oI 3,oI 3,oI 0,oR b64,oQ zk70,oS] [(.long q2),(.long zk70)] ?_
      refine oG X71 tt 1 129 #[.val (.int p0),.val (.int p1),oQ q2,oS,oI 2,oI 1,oI 3,oI 3,oI 0,oR b64,oQ zk70,oS] [(.int (lcmpW zk70 q2))] rfl ?_
      refine own_go (T':=T71) (f':=(mkF m 137 #[.val (.int p0),.val (.int p1),oQ q2,oS,oI 2,oI 1,oI 3,oI 3,oI 0,oR b64,oQ zk70,oS] [vI 1])) (fun _ k=>XS.ifNo X71.here hx rfl (hb hby at_129) rfl ((if0 _ _).trans (teq ((own_lc_eq (a:=zk70) (b:=q2)).mpr (hzk70.symm.trans (own_key3 q2)))).2) (own_e X71 tt 132 2 k rfl)) ?_
      refine own_ret X71 (v:=some (vI 1)) (oN Bd.returns) Bd.notSynchronized (fun fs hr=>retN X71 hx (t:=.boolean) Bd.returns (by simp) (hb hby at_137) hr) ?_ (by decide) (by decide)
      unfold Q0
      exact ⟨rfl,N71⟩
    · refine oG X65 tt 3 113 #[.val (.int p0),.val (.int p1),oQ q2,oS,oI 2,oI 1,oI 3,oI 3,oI 1,oR b64,oU,oU] [(.long q2),vI 1,vR b64] rfl ?_
      refine own_cV X65 hx hZ hown eK65 (ow126 hw) (ow127 hw) (notFace_of_selects (args:=#[]) (mvT hZ (ow129 hw))) (ow129 hw) (ow128 hw) (ow3 hw) (ow130 hw) (A64.keep K65) (y:=mn18) (z:=mn18) (argsL:=[vI 1,(.long q2)]) (rest:=[]) (W:=0) hml.symm (hb hby at_113) (lenOf pd12 rfl) rfl (by decide) (rm17a62 l Z a0 hw [] b64 q2 b65a b65g k65b b65c b65e b65f k65d k65h b65i b65k b65l k65j T65.heap n0 (oT (oT Z0 E64.1) K65.1) g65_0 g65_1 g65_2 g65_7 g65_11 g65_16) fun _ T72 _ X72 hQ72=>?_
      obtain ⟨rfl,N72q,hh72⟩:=hQ72
      have N72:=Fr.app N65 N72q
      obtain ⟨_,X72,N72⟩:=own_hide X72 N72
      refine oV 116 #[.val (.int p0),.val (.int p1),oQ q2,oS,oI 2,oI 1,oI 3,oI 3,oI 1,oR b64,oU,oU] [(.long (kf (kf (kf 0 q2 42 22) q2 0 21) q2 21 21))] ?_
      generalize hzk73:(kf (kf (kf 0 q2 42 22) q2 0 21) q2 21 21) = zk73
      refine oG X72 tt 5 125 #[.val (.int p0),.val (.int p1),oQ q2,oS,oI 2,oI 1,oI 3,oI 3,oI 1,oR b64,oQ zk73,oS] [(.long q2),vI 1,vI 2,(.long zk73)] rfl ?_
      refine own_cS X72 hx hZ hown hh72 (ow132 hw) (ow133 hw) (ow134 hw) (ow135 hw) (y:=mn19) (argsL:=[vI 2,vI 1,(.long q2)]) (rest:=[(.long zk73)]) (W:=2) hml.symm (hb hby at_125) (lenOf pd10 rfl) rfl (by decide) (rm18a67 l Z a0 hw [] q2 T65.heap n0 (oT (oT Z0 E64.1) K65.1) ) fun _ T74 _ X74 hQ74=>?_
      obtain ⟨rfl,N74q,hh74⟩:=hQ74
      have N74:=Fr.app N72 N74q
      obtain ⟨_,X74,N74⟩:=own_hide X74 N74
      refine oV 128 #[.val (.int p0),.val (.int p1),oQ q2,oS,oI 2,oI 1,oI 3,oI 3,oI 1,oR b64,oQ zk73,oS] [(.long (((((q2.toUInt64 >>> ((42:Int32) &&& 0x3f).toInt64.toUInt64).toInt64) <<< ((42:Int32) &&& 0x3f).toInt64) ||| ((q2 &&& (2097151:Int64)) <<< ((21:Int32) &&& 0x3f).toInt64)) ||| (((q2.toUInt64 >>> ((21:Int32) &&& 0x3f).toInt64.toUInt64).toInt64) &&& (2097151:Int64)))),(.long zk73)] ?_
      generalize hzk75:(((((q2.toUInt64 >>> ((42:Int32) &&& 0x3f).toInt64.toUInt64).toInt64) <<< ((42:Int32) &&& 0x3f).toInt64) ||| ((q2 &&& (2097151:Int64)) <<< ((21:Int32) &&& 0x3f).toInt64)) ||| (((q2.toUInt64 >>> ((21:Int32) &&& 0x3f).toInt64.toUInt64).toInt64) &&& (2097151:Int64))) = zk75
      refine oG X74 tt 1 129 #[.val (.int p0),.val (.int p1),oQ q2,oS,oI 2,oI 1,oI 3,oI 3,oI 1,oR b64,oQ zk73,oS] [(.int (lcmpW zk73 zk75))] rfl ?_
      refine own_go (T':=T74) (f':=(mkF m 137 #[.val (.int p0),.val (.int p1),oQ q2,oS,oI 2,oI 1,oI 3,oI 3,oI 1,oR b64,oQ zk73,oS] [vI 1])) (fun _ k=>XS.ifNo X74.here hx rfl (hb hby at_129) rfl ((if0 _ _).trans (teq ((own_lc_eq (a:=zk73) (b:=zk75)).mpr (hzk73.symm.trans ((own_key4 q2).trans hzk75)))).2) (own_e X74 tt 132 2 k rfl)) ?_
      refine own_ret X74 (v:=some (vI 1)) (oN Bd.returns) Bd.notSynchronized (fun fs hr=>retN X74 hx (t:=.boolean) Bd.returns (by simp) (hb hby at_137) hr) ?_ (by decide) (by decide)
      unfold Q0
      exact ⟨rfl,N74⟩
    · refine oG X65 tt 3 113 #[.val (.int p0),.val (.int p1),oQ q2,oS,oI 2,oI 1,oI 3,oI 3,oI 2,oR b64,oU,oU] [(.long q2),vI 2,vR b64] rfl ?_
      refine own_cV X65 hx hZ hown eK65 (ow126 hw) (ow127 hw) (notFace_of_selects (args:=#[]) (mvT hZ (ow129 hw))) (ow129 hw) (ow128 hw) (ow3 hw) (ow130 hw) (A64.keep K65) (y:=mn18) (z:=mn18) (argsL:=[vI 2,(.long q2)]) (rest:=[]) (W:=0) hml.symm (hb hby at_113) (lenOf pd12 rfl) rfl (by decide) (rm17a63 l Z a0 hw [] b64 q2 b65a b65g k65b b65c b65e b65f k65d k65h b65i b65k b65l k65j T65.heap n0 (oT (oT Z0 E64.1) K65.1) g65_0 g65_1 g65_2 g65_9 g65_11 g65_18) fun _ T76 _ X76 hQ76=>?_
      obtain ⟨rfl,N76q,hh76⟩:=hQ76
      have N76:=Fr.app N65 N76q
      obtain ⟨_,X76,N76⟩:=own_hide X76 N76
      refine oV 116 #[.val (.int p0),.val (.int p1),oQ q2,oS,oI 2,oI 1,oI 3,oI 3,oI 2,oR b64,oU,oU] [(.long (kf (kf (kf 0 q2 21 21) q2 0 21) q2 42 22))] ?_
      generalize hzk77:(kf (kf (kf 0 q2 21 21) q2 0 21) q2 42 22) = zk77
      refine oG X76 tt 5 125 #[.val (.int p0),.val (.int p1),oQ q2,oS,oI 2,oI 1,oI 3,oI 3,oI 2,oR b64,oQ zk77,oS] [(.long q2),vI 2,vI 2,(.long zk77)] rfl ?_
      refine own_cS X76 hx hZ hown hh76 (ow132 hw) (ow133 hw) (ow134 hw) (ow135 hw) (y:=mn19) (argsL:=[vI 2,vI 2,(.long q2)]) (rest:=[(.long zk77)]) (W:=2) hml.symm (hb hby at_125) (lenOf pd10 rfl) rfl (by decide) (rm18a68 l Z a0 hw [] q2 T65.heap n0 (oT (oT Z0 E64.1) K65.1) ) fun _ T78 _ X78 hQ78=>?_
      obtain ⟨rfl,N78q,hh78⟩:=hQ78
      have N78:=Fr.app N76 N78q
      obtain ⟨_,X78,N78⟩:=own_hide X78 N78
      refine oV 128 #[.val (.int p0),.val (.int p1),oQ q2,oS,oI 2,oI 1,oI 3,oI 3,oI 2,oR b64,oQ zk77,oS] [(.long ((((((q2.toUInt64 >>> ((21:Int32) &&& 0x3f).toInt64.toUInt64).toInt64) &&& (2097151:Int64)) <<< ((43:Int32) &&& 0x3f).toInt64) ||| ((q2 &&& (2097151:Int64)) <<< ((22:Int32) &&& 0x3f).toInt64)) ||| ((q2.toUInt64 >>> ((42:Int32) &&& 0x3f).toInt64.toUInt64).toInt64))),(.long zk77)] ?_
      generalize hzk79:((((((q2.toUInt64 >>> ((21:Int32) &&& 0x3f).toInt64.toUInt64).toInt64) &&& (2097151:Int64)) <<< ((43:Int32) &&& 0x3f).toInt64) ||| ((q2 &&& (2097151:Int64)) <<< ((22:Int32) &&& 0x3f).toInt64)) ||| ((q2.toUInt64 >>> ((42:Int32) &&& 0x3f).toInt64.toUInt64).toInt64)) = zk79
      refine oG X78 tt 1 129 #[.val (.int p0),.val (.int p1),oQ q2,oS,oI 2,oI 1,oI 3,oI 3,oI 2,oR b64,oQ zk77,oS] [(.int (lcmpW zk77 zk79))] rfl ?_
      refine own_go (T':=T78) (f':=(mkF m 137 #[.val (.int p0),.val (.int p1),oQ q2,oS,oI 2,oI 1,oI 3,oI 3,oI 2,oR b64,oQ zk77,oS] [vI 1])) (fun _ k=>XS.ifNo X78.here hx rfl (hb hby at_129) rfl ((if0 _ _).trans (teq ((own_lc_eq (a:=zk77) (b:=zk79)).mpr (hzk77.symm.trans ((own_key5 q2).trans hzk79)))).2) (own_e X78 tt 132 2 k rfl)) ?_
      refine own_ret X78 (v:=some (vI 1)) (oN Bd.returns) Bd.notSynchronized (fun fs hr=>retN X78 hx (t:=.boolean) Bd.returns (by simp) (hb hby at_137) hr) ?_ (by decide) (by decide)
      unfold Q0
      exact ⟨rfl,N78⟩
  · refine oG X0 tt 21 87 #[.val (.int p0),.val (.int p1),oQ q2,oS,oI 3,oI 2,oI 3,oI 3,oU,oU,oU,oU] [(.int p1)] rfl ?_
    refine own_go (T':=s₁) (f':=(mkF m 92 #[.val (.int p0),.val (.int p1),oQ q2,oS,oI 3,oI 2,oI 3,oI 3,oU,oU,oU,oU] [vI 3,(.int (p1 &&& (2147483647:Int32)))])) (fun _ k=>X0.ldcInt hx hown (mvT hZ (ow0 hw)) (g:=(mkF m 87 #[.val (.int p0),.val (.int p1),oQ q2,oS,oI 3,oI 2,oI 3,oI 3,oU,oU,oU,oU] [(.int p1)])) rfl (hb hby at_87) _ (own_e X0 tt 89 2 k rfl)) ?_
    refine own_go (T':=s₁) (f':=(mkF m 95 #[.val (.int p0),.val (.int p1),oQ q2,oS,oI 3,oI 2,oI 3,oI 3,.val (.int ((p1 &&& (2147483647:Int32)) % (3:Int32))),oU,oU,oU] [])) (fun _ k=>iremM X0 hx rfl (hb hby at_92) rfl (by decide) (own_e X0 tt 93 1 k rfl)) ?_
    generalize hzt:((p1 &&& (2147483647:Int32)) % (3:Int32)) = zt
    obtain ⟨T80,h80,X80,e80,E80,A80,D80,-,st80⟩:=newO X0 hx hZ hown (ow1 hw) (ow2 hw) (ow3 hw) e0 (g:=(mkF m 95 #[.val (.int p0),.val (.int p1),oQ q2,oS,oI 3,oI 2,oI 3,oI 3,.val (.int zt),oU,oU,oU] [])) rfl (hb hby at_95) (by decide) (by decide)
    obtain ⟨b80,g_b80⟩:∃ z,z = h0.size:=⟨_,rfl⟩
    have sg_b80:h0.size≤b80:=Nat.le_of_eq g_b80.symm
    rw [← g_b80] at A80 D80 st80
    have n_b80:=oT Z0 sg_b80
    have sz_b80:=oT (Keep.refl h0 []).1 sg_b80
    have K80:Keep h0 h80 []:=(Keep.refl h0 []).ext E80
    have F_fromShifts_b80:oF3 Z h80 b80 .null:=D80 (Or.inr (ow93 hw)) (ty:=(.array (.array .int))) (by decide)
    have F_widths_b80:oF4 Z h80 b80 .null:=D80 (Or.inr (ow95 hw)) (ty:=(.array (.array .int))) (by decide)
    have F_prefixes_b80:oF5 Z h80 b80 .null:=D80 (Or.inr (ow97 hw)) (ty:=(.array .int)) (by decide)
    have F_earlierPrefixes_b80:oF6 Z h80 b80 .null:=D80 (Or.inr (ow123 hw)) (ty:=(.array (.array .long))) (by decide)
    refine oH st80 X80 tt 3 103 #[.val (.int p0),.val (.int p1),oQ q2,oS,oI 3,oI 2,oI 3,oI 3,.val (.int zt),oU,oU,oU] [vI 3,vI 2,vR b80,vR b80] rfl ?_
    refine own_cN X80 hx hZ hown e80 rfl (ow4 hw) (ow5 hw) (ow3 hw) (ow6 hw) (y:=mn17) (b:=b80) (argsL:=[vI 2,vI 3]) (rest:=[vR b80]) (W:=1) hml.symm (hb hby at_103) (lenOf pd8 rfl) rfl (by decide) (rm1a69 l Z a0 hw [] b80 wd kd h80 n0 (oT Z0 E80.1) (S_d.ext E80) (V_d.ext E80) A80 F_fromShifts_b80 F_widths_b80 F_prefixes_b80 F_earlierPrefixes_b80 n_b80) fun _ T81 _ X81 hQ81=>?_
    obtain ⟨b81a,k81b,b81c,k81d,b81e,b81f,b81g,k81h,b81i,k81j,b81k,b81l,rfl,N81q,K81,n_b81a,sg_b81a,n_b81c,sg_b81c,n_b81e,sg_b81e,n_b81f,sg_b81f,n_b81g,sg_b81g,n_b81i,sg_b81i,n_b81k,sg_b81k,n_b81l,sg_b81l,ne81_0,ne81_1,ne81_2,ne81_3,ne81_4,ne81_5,ne81_6,ne81_7,ne81_8,ne81_9,ne81_10,ne81_11,ne81_12,ne81_13,ne81_14,ne81_15,ne81_16,ne81_17,ne81_18,ne81_19,ne81_20,ne81_21,ne81_22,ne81_23,ne81_24,ne81_25,ne81_26,ne81_27,g81_0,g81_1,g81_2,g81_3,g81_4,g81_5,g81_6,g81_7,g81_8,g81_9,g81_10,g81_11,g81_12,g81_13,g81_14,g81_15,g81_16,g81_17,g81_18,g81_19⟩:=hQ81
    have N81:=Fr.app N0 N81q
    have sz_b81a:=oT K80.1 sg_b81a
    have sz_b81c:=oT K80.1 sg_b81c
    have sz_b81e:=oT K80.1 sg_b81e
    have sz_b81f:=oT K80.1 sg_b81f
    have sz_b81g:=oT K80.1 sg_b81g
    have sz_b81i:=oT K80.1 sg_b81i
    have sz_b81k:=oT K80.1 sg_b81k
    have sz_b81l:=oT K80.1 sg_b81l
    have u82:b80 < h80.size:=A80.lt
    have m83:h0.size≤h80.size:=(oT (Nat.le_refl _) E80.1)
    have eK81:T81.heap = T81.heap:=rfl
    have KK81:Keep h0 T81.heap []:=Keep.trans K80 K81 (allS (Or.inr sz_b80) all0)
    obtain ⟨_,X81,N81⟩:=own_hide X81 N81
    refine oV 106 #[.val (.int p0),.val (.int p1),oQ q2,oS,oI 3,oI 2,oI 3,oI 3,.val (.int zt),oU,oU,oU] [vR b80] ?_
    refine oG X81 tt 1 108 #[.val (.int p0),.val (.int p1),oQ q2,oS,oI 3,oI 2,oI 3,oI 3,.val (.int zt),oR b80,oU,oU] [] rfl ?_
    have ht84:=own_m3 p1
    rw [hzt] at ht84
    rcases ht84 with rfl | rfl | rfl
    · refine oG X81 tt 3 113 #[.val (.int p0),.val (.int p1),oQ q2,oS,oI 3,oI 2,oI 3,oI 3,oI 0,oR b80,oU,oU] [(.long q2),vI 0,vR b80] rfl ?_
      refine own_cV X81 hx hZ hown eK81 (ow126 hw) (ow127 hw) (notFace_of_selects (args:=#[]) (mvT hZ (ow129 hw))) (ow129 hw) (ow128 hw) (ow3 hw) (ow130 hw) (A80.keep K81) (y:=mn18) (z:=mn18) (argsL:=[vI 0,(.long q2)]) (rest:=[]) (W:=0) hml.symm (hb hby at_113) (lenOf pd12 rfl) rfl (by decide) (rm17a65 l Z a0 hw [] b80 q2 b81a b81g k81b b81c b81e b81f k81d k81h b81i b81k b81l k81j T81.heap n0 (oT (oT Z0 E80.1) K81.1) g81_0 g81_1 g81_2 g81_5 g81_11 g81_14) fun _ T85 _ X85 hQ85=>?_
      obtain ⟨rfl,N85q,hh85⟩:=hQ85
      have N85:=Fr.app N81 N85q
      obtain ⟨_,X85,N85⟩:=own_hide X85 N85
      refine oV 116 #[.val (.int p0),.val (.int p1),oQ q2,oS,oI 3,oI 2,oI 3,oI 3,oI 0,oR b80,oU,oU] [(.long (kf (kf (kf 0 q2 42 22) q2 21 21) q2 0 21))] ?_
      generalize hzk86:(kf (kf (kf 0 q2 42 22) q2 21 21) q2 0 21) = zk86
      refine oG X85 tt 5 125 #[.val (.int p0),.val (.int p1),oQ q2,oS,oI 3,oI 2,oI 3,oI 3,oI 0,oR b80,oQ zk86,oS] [(.long q2),vI 0,vI 3,(.long zk86)] rfl ?_
      refine own_cS X85 hx hZ hown hh85 (ow132 hw) (ow133 hw) (ow134 hw) (ow135 hw) (y:=mn19) (argsL:=[vI 3,vI 0,(.long q2)]) (rest:=[(.long zk86)]) (W:=2) hml.symm (hb hby at_125) (lenOf pd10 rfl) rfl (by decide) (rm18a78 l Z a0 hw [] q2 T81.heap n0 (oT (oT Z0 E80.1) K81.1) ) fun _ T87 _ X87 hQ87=>?_
      obtain ⟨rfl,N87q,hh87⟩:=hQ87
      have N87:=Fr.app N85 N87q
      obtain ⟨_,X87,N87⟩:=own_hide X87 N87
      refine oV 128 #[.val (.int p0),.val (.int p1),oQ q2,oS,oI 3,oI 2,oI 3,oI 3,oI 0,oR b80,oQ zk86,oS] [(.long q2),(.long zk86)] ?_
      refine oG X87 tt 1 129 #[.val (.int p0),.val (.int p1),oQ q2,oS,oI 3,oI 2,oI 3,oI 3,oI 0,oR b80,oQ zk86,oS] [(.int (lcmpW zk86 q2))] rfl ?_
      refine own_go (T':=T87) (f':=(mkF m 137 #[.val (.int p0),.val (.int p1),oQ q2,oS,oI 3,oI 2,oI 3,oI 3,oI 0,oR b80,oQ zk86,oS] [vI 1])) (fun _ k=>XS.ifNo X87.here hx rfl (hb hby at_129) rfl ((if0 _ _).trans (teq ((own_lc_eq (a:=zk86) (b:=q2)).mpr (hzk86.symm.trans (own_key3 q2)))).2) (own_e X87 tt 132 2 k rfl)) ?_
      refine own_ret X87 (v:=some (vI 1)) (oN Bd.returns) Bd.notSynchronized (fun fs hr=>retN X87 hx (t:=.boolean) Bd.returns (by simp) (hb hby at_137) hr) ?_ (by decide) (by decide)
      unfold Q0
      exact ⟨rfl,N87⟩
    · refine oG X81 tt 3 113 #[.val (.int p0),.val (.int p1),oQ q2,oS,oI 3,oI 2,oI 3,oI 3,oI 1,oR b80,oU,oU] [(.long q2),vI 1,vR b80] rfl ?_
      refine own_cV X81 hx hZ hown eK81 (ow126 hw) (ow127 hw) (notFace_of_selects (args:=#[]) (mvT hZ (ow129 hw))) (ow129 hw) (ow128 hw) (ow3 hw) (ow130 hw) (A80.keep K81) (y:=mn18) (z:=mn18) (argsL:=[vI 1,(.long q2)]) (rest:=[]) (W:=0) hml.symm (hb hby at_113) (lenOf pd12 rfl) rfl (by decide) (rm17a75 l Z a0 hw [] b80 q2 b81a b81g k81b b81c b81e b81f k81d k81h b81i b81k b81l k81j T81.heap n0 (oT (oT Z0 E80.1) K81.1) g81_0 g81_1 g81_2 g81_7 g81_11 g81_16) fun _ T88 _ X88 hQ88=>?_
      obtain ⟨rfl,N88q,hh88⟩:=hQ88
      have N88:=Fr.app N81 N88q
      obtain ⟨_,X88,N88⟩:=own_hide X88 N88
      refine oV 116 #[.val (.int p0),.val (.int p1),oQ q2,oS,oI 3,oI 2,oI 3,oI 3,oI 1,oR b80,oU,oU] [(.long (kf (kf (kf 0 q2 21 21) q2 42 22) q2 0 21))] ?_
      generalize hzk89:(kf (kf (kf 0 q2 21 21) q2 42 22) q2 0 21) = zk89
      refine oG X88 tt 5 125 #[.val (.int p0),.val (.int p1),oQ q2,oS,oI 3,oI 2,oI 3,oI 3,oI 1,oR b80,oQ zk89,oS] [(.long q2),vI 1,vI 3,(.long zk89)] rfl ?_
      refine own_cS X88 hx hZ hown hh88 (ow132 hw) (ow133 hw) (ow134 hw) (ow135 hw) (y:=mn19) (argsL:=[vI 3,vI 1,(.long q2)]) (rest:=[(.long zk89)]) (W:=2) hml.symm (hb hby at_125) (lenOf pd10 rfl) rfl (by decide) (rm18a79 l Z a0 hw [] q2 T81.heap n0 (oT (oT Z0 E80.1) K81.1) ) fun _ T90 _ X90 hQ90=>?_
      obtain ⟨rfl,N90q,hh90⟩:=hQ90
      have N90:=Fr.app N88 N90q
      obtain ⟨_,X90,N90⟩:=own_hide X90 N90
      refine oV 128 #[.val (.int p0),.val (.int p1),oQ q2,oS,oI 3,oI 2,oI 3,oI 3,oI 1,oR b80,oQ zk89,oS] [(.long ((((((q2.toUInt64 >>> ((21:Int32) &&& 0x3f).toInt64.toUInt64).toInt64) &&& (2097151:Int64)) <<< ((43:Int32) &&& 0x3f).toInt64) ||| (((q2.toUInt64 >>> ((42:Int32) &&& 0x3f).toInt64.toUInt64).toInt64) <<< ((21:Int32) &&& 0x3f).toInt64)) ||| (q2 &&& (2097151:Int64)))),(.long zk89)] ?_
      generalize hzk91:((((((q2.toUInt64 >>> ((21:Int32) &&& 0x3f).toInt64.toUInt64).toInt64) &&& (2097151:Int64)) <<< ((43:Int32) &&& 0x3f).toInt64) ||| (((q2.toUInt64 >>> ((42:Int32) &&& 0x3f).toInt64.toUInt64).toInt64) <<< ((21:Int32) &&& 0x3f).toInt64)) ||| (q2 &&& (2097151:Int64))) = zk91
      refine oG X90 tt 1 129 #[.val (.int p0),.val (.int p1),oQ q2,oS,oI 3,oI 2,oI 3,oI 3,oI 1,oR b80,oQ zk89,oS] [(.int (lcmpW zk89 zk91))] rfl ?_
      refine own_go (T':=T90) (f':=(mkF m 137 #[.val (.int p0),.val (.int p1),oQ q2,oS,oI 3,oI 2,oI 3,oI 3,oI 1,oR b80,oQ zk89,oS] [vI 1])) (fun _ k=>XS.ifNo X90.here hx rfl (hb hby at_129) rfl ((if0 _ _).trans (teq ((own_lc_eq (a:=zk89) (b:=zk91)).mpr (hzk89.symm.trans ((own_key6 q2).trans hzk91)))).2) (own_e X90 tt 132 2 k rfl)) ?_
      refine own_ret X90 (v:=some (vI 1)) (oN Bd.returns) Bd.notSynchronized (fun fs hr=>retN X90 hx (t:=.boolean) Bd.returns (by simp) (hb hby at_137) hr) ?_ (by decide) (by decide)
      unfold Q0
      exact ⟨rfl,N90⟩
    · refine oG X81 tt 3 113 #[.val (.int p0),.val (.int p1),oQ q2,oS,oI 3,oI 2,oI 3,oI 3,oI 2,oR b80,oU,oU] [(.long q2),vI 2,vR b80] rfl ?_
      refine own_cV X81 hx hZ hown eK81 (ow126 hw) (ow127 hw) (notFace_of_selects (args:=#[]) (mvT hZ (ow129 hw))) (ow129 hw) (ow128 hw) (ow3 hw) (ow130 hw) (A80.keep K81) (y:=mn18) (z:=mn18) (argsL:=[vI 2,(.long q2)]) (rest:=[]) (W:=0) hml.symm (hb hby at_113) (lenOf pd12 rfl) rfl (by decide) (rm17a76 l Z a0 hw [] b80 q2 b81a b81g k81b b81c b81e b81f k81d k81h b81i b81k b81l k81j T81.heap n0 (oT (oT Z0 E80.1) K81.1) g81_0 g81_1 g81_2 g81_9 g81_11 g81_18) fun _ T92 _ X92 hQ92=>?_
      obtain ⟨rfl,N92q,hh92⟩:=hQ92
      have N92:=Fr.app N81 N92q
      obtain ⟨_,X92,N92⟩:=own_hide X92 N92
      refine oV 116 #[.val (.int p0),.val (.int p1),oQ q2,oS,oI 3,oI 2,oI 3,oI 3,oI 2,oR b80,oU,oU] [(.long (kf (kf (kf 0 q2 0 21) q2 42 22) q2 21 21))] ?_
      generalize hzk93:(kf (kf (kf 0 q2 0 21) q2 42 22) q2 21 21) = zk93
      refine oG X92 tt 5 125 #[.val (.int p0),.val (.int p1),oQ q2,oS,oI 3,oI 2,oI 3,oI 3,oI 2,oR b80,oQ zk93,oS] [(.long q2),vI 2,vI 3,(.long zk93)] rfl ?_
      refine own_cS X92 hx hZ hown hh92 (ow132 hw) (ow133 hw) (ow134 hw) (ow135 hw) (y:=mn19) (argsL:=[vI 3,vI 2,(.long q2)]) (rest:=[(.long zk93)]) (W:=2) hml.symm (hb hby at_125) (lenOf pd10 rfl) rfl (by decide) (rm18a80 l Z a0 hw [] q2 T81.heap n0 (oT (oT Z0 E80.1) K81.1) ) fun _ T94 _ X94 hQ94=>?_
      obtain ⟨rfl,N94q,hh94⟩:=hQ94
      have N94:=Fr.app N92 N94q
      obtain ⟨_,X94,N94⟩:=own_hide X94 N94
      refine oV 128 #[.val (.int p0),.val (.int p1),oQ q2,oS,oI 3,oI 2,oI 3,oI 3,oI 2,oR b80,oQ zk93,oS] [(.long ((((q2 &&& (2097151:Int64)) <<< ((43:Int32) &&& 0x3f).toInt64) ||| (((q2.toUInt64 >>> ((42:Int32) &&& 0x3f).toInt64.toUInt64).toInt64) <<< ((21:Int32) &&& 0x3f).toInt64)) ||| (((q2.toUInt64 >>> ((21:Int32) &&& 0x3f).toInt64.toUInt64).toInt64) &&& (2097151:Int64)))),(.long zk93)] ?_
      generalize hzk95:((((q2 &&& (2097151:Int64)) <<< ((43:Int32) &&& 0x3f).toInt64) ||| (((q2.toUInt64 >>> ((42:Int32) &&& 0x3f).toInt64.toUInt64).toInt64) <<< ((21:Int32) &&& 0x3f).toInt64)) ||| (((q2.toUInt64 >>> ((21:Int32) &&& 0x3f).toInt64.toUInt64).toInt64) &&& (2097151:Int64))) = zk95
      refine oG X94 tt 1 129 #[.val (.int p0),.val (.int p1),oQ q2,oS,oI 3,oI 2,oI 3,oI 3,oI 2,oR b80,oQ zk93,oS] [(.int (lcmpW zk93 zk95))] rfl ?_
      refine own_go (T':=T94) (f':=(mkF m 137 #[.val (.int p0),.val (.int p1),oQ q2,oS,oI 3,oI 2,oI 3,oI 3,oI 2,oR b80,oQ zk93,oS] [vI 1])) (fun _ k=>XS.ifNo X94.here hx rfl (hb hby at_129) rfl ((if0 _ _).trans (teq ((own_lc_eq (a:=zk93) (b:=zk95)).mpr (hzk93.symm.trans ((own_key7 q2).trans hzk95)))).2) (own_e X94 tt 132 2 k rfl)) ?_
      refine own_ret X94 (v:=some (vI 1)) (oN Bd.returns) Bd.notSynchronized (fun fs hr=>retN X94 hx (t:=.boolean) Bd.returns (by simp) (hb hby at_137) hr) ?_ (by decide) (by decide)
      unfold Q0
      exact ⟨rfl,N94⟩
  · refine oG X0 tt 20 87 #[.val (.int p0),.val (.int p1),oQ q2,oS,oI 4,oI 1,oI 4,oI 4,oU,oU,oU,oU] [(.int p1)] rfl ?_
    refine own_go (T':=s₁) (f':=(mkF m 92 #[.val (.int p0),.val (.int p1),oQ q2,oS,oI 4,oI 1,oI 4,oI 4,oU,oU,oU,oU] [vI 4,(.int (p1 &&& (2147483647:Int32)))])) (fun _ k=>X0.ldcInt hx hown (mvT hZ (ow0 hw)) (g:=(mkF m 87 #[.val (.int p0),.val (.int p1),oQ q2,oS,oI 4,oI 1,oI 4,oI 4,oU,oU,oU,oU] [(.int p1)])) rfl (hb hby at_87) _ (own_e X0 tt 89 2 k rfl)) ?_
    refine own_go (T':=s₁) (f':=(mkF m 95 #[.val (.int p0),.val (.int p1),oQ q2,oS,oI 4,oI 1,oI 4,oI 4,.val (.int ((p1 &&& (2147483647:Int32)) % (4:Int32))),oU,oU,oU] [])) (fun _ k=>iremM X0 hx rfl (hb hby at_92) rfl (by decide) (own_e X0 tt 93 1 k rfl)) ?_
    generalize hzt:((p1 &&& (2147483647:Int32)) % (4:Int32)) = zt
    obtain ⟨T96,h96,X96,e96,E96,A96,D96,-,st96⟩:=newO X0 hx hZ hown (ow1 hw) (ow2 hw) (ow3 hw) e0 (g:=(mkF m 95 #[.val (.int p0),.val (.int p1),oQ q2,oS,oI 4,oI 1,oI 4,oI 4,.val (.int zt),oU,oU,oU] [])) rfl (hb hby at_95) (by decide) (by decide)
    obtain ⟨b96,g_b96⟩:∃ z,z = h0.size:=⟨_,rfl⟩
    have sg_b96:h0.size≤b96:=Nat.le_of_eq g_b96.symm
    rw [← g_b96] at A96 D96 st96
    have n_b96:=oT Z0 sg_b96
    have sz_b96:=oT (Keep.refl h0 []).1 sg_b96
    have K96:Keep h0 h96 []:=(Keep.refl h0 []).ext E96
    have F_fromShifts_b96:oF3 Z h96 b96 .null:=D96 (Or.inr (ow93 hw)) (ty:=(.array (.array .int))) (by decide)
    have F_widths_b96:oF4 Z h96 b96 .null:=D96 (Or.inr (ow95 hw)) (ty:=(.array (.array .int))) (by decide)
    have F_prefixes_b96:oF5 Z h96 b96 .null:=D96 (Or.inr (ow97 hw)) (ty:=(.array .int)) (by decide)
    have F_earlierPrefixes_b96:oF6 Z h96 b96 .null:=D96 (Or.inr (ow123 hw)) (ty:=(.array (.array .long))) (by decide)
    refine oH st96 X96 tt 3 103 #[.val (.int p0),.val (.int p1),oQ q2,oS,oI 4,oI 1,oI 4,oI 4,.val (.int zt),oU,oU,oU] [vI 4,vI 1,vR b96,vR b96] rfl ?_
    refine own_cN X96 hx hZ hown e96 rfl (ow4 hw) (ow5 hw) (ow3 hw) (ow6 hw) (y:=mn17) (b:=b96) (argsL:=[vI 1,vI 4]) (rest:=[vR b96]) (W:=1) hml.symm (hb hby at_103) (lenOf pd8 rfl) rfl (by decide) (rm1a81 l Z a0 hw [] b96 wd kd h96 n0 (oT Z0 E96.1) (S_d.ext E96) (V_d.ext E96) A96 F_fromShifts_b96 F_widths_b96 F_prefixes_b96 F_earlierPrefixes_b96 n_b96) fun _ T97 _ X97 hQ97=>?_
    obtain ⟨b97a,k97b,b97c,k97d,b97e,b97f,b97g,b97h,k97i,b97j,k97k,b97l,b97m,b97n,rfl,N97q,K97,n_b97a,sg_b97a,n_b97c,sg_b97c,n_b97e,sg_b97e,n_b97f,sg_b97f,n_b97g,sg_b97g,n_b97h,sg_b97h,n_b97j,sg_b97j,n_b97l,sg_b97l,n_b97m,sg_b97m,n_b97n,sg_b97n,ne97_0,ne97_1,ne97_2,ne97_3,ne97_4,ne97_5,ne97_6,ne97_7,ne97_8,ne97_9,ne97_10,ne97_11,ne97_12,ne97_13,ne97_14,ne97_15,ne97_16,ne97_17,ne97_18,ne97_19,ne97_20,ne97_21,ne97_22,ne97_23,ne97_24,ne97_25,ne97_26,ne97_27,ne97_28,ne97_29,ne97_30,ne97_31,ne97_32,ne97_33,ne97_34,ne97_35,ne97_36,ne97_37,ne97_38,ne97_39,ne97_40,ne97_41,ne97_42,ne97_43,ne97_44,g97_0,g97_1,g97_2,g97_3,g97_4,g97_5,g97_6,g97_7,g97_8,g97_9,g97_10,g97_11,g97_12,g97_13,g97_14,g97_15,g97_16,g97_17,g97_18,g97_19,g97_20,g97_21,g97_22,g97_23⟩:=hQ97
    have N97:=Fr.app N0 N97q
    have sz_b97a:=oT K96.1 sg_b97a
    have sz_b97c:=oT K96.1 sg_b97c
    have sz_b97e:=oT K96.1 sg_b97e
    have sz_b97f:=oT K96.1 sg_b97f
    have sz_b97g:=oT K96.1 sg_b97g
    have sz_b97h:=oT K96.1 sg_b97h
    have sz_b97j:=oT K96.1 sg_b97j
    have sz_b97l:=oT K96.1 sg_b97l
    have sz_b97m:=oT K96.1 sg_b97m
    have sz_b97n:=oT K96.1 sg_b97n
    have u98:b96 < h96.size:=A96.lt
    have m99:h0.size≤h96.size:=(oT (Nat.le_refl _) E96.1)
    have eK97:T97.heap = T97.heap:=rfl
    have KK97:Keep h0 T97.heap []:=Keep.trans K96 K97 (allS (Or.inr sz_b96) all0)
    obtain ⟨_,X97,N97⟩:=own_hide X97 N97
    refine oV 106 #[.val (.int p0),.val (.int p1),oQ q2,oS,oI 4,oI 1,oI 4,oI 4,.val (.int zt),oU,oU,oU] [vR b96] ?_
    refine oG X97 tt 1 108 #[.val (.int p0),.val (.int p1),oQ q2,oS,oI 4,oI 1,oI 4,oI 4,.val (.int zt),oR b96,oU,oU] [] rfl ?_
    have ht100:=own_m4 p1
    rw [hzt] at ht100
    rcases ht100 with rfl | rfl | rfl | rfl
    · refine oG X97 tt 3 113 #[.val (.int p0),.val (.int p1),oQ q2,oS,oI 4,oI 1,oI 4,oI 4,oI 0,oR b96,oU,oU] [(.long q2),vI 0,vR b96] rfl ?_
      refine own_cV X97 hx hZ hown eK97 (ow126 hw) (ow127 hw) (notFace_of_selects (args:=#[]) (mvT hZ (ow129 hw))) (ow129 hw) (ow128 hw) (ow3 hw) (ow130 hw) (A96.keep K97) (y:=mn18) (z:=mn18) (argsL:=[vI 0,(.long q2)]) (rest:=[]) (W:=0) hml.symm (hb hby at_113) (lenOf pd12 rfl) rfl (by decide) (rm17a117 l Z a0 hw [] b96 q2 b97a b97h k97b b97c b97e b97f b97g k97d k97i b97j b97l b97m b97n k97k T97.heap n0 (oT (oT Z0 E96.1) K97.1) g97_0 g97_1 g97_2 g97_5 g97_13 g97_16) fun _ T101 _ X101 hQ101=>?_
      obtain ⟨rfl,N101q,hh101⟩:=hQ101
      have N101:=Fr.app N97 N101q
      obtain ⟨_,X101,N101⟩:=own_hide X101 N101
      refine oV 116 #[.val (.int p0),.val (.int p1),oQ q2,oS,oI 4,oI 1,oI 4,oI 4,oI 0,oR b96,oU,oU] [(.long (kf (kf (kf (kf 0 q2 48 16) q2 32 16) q2 16 16) q2 0 16))] ?_
      generalize hzk102:(kf (kf (kf (kf 0 q2 48 16) q2 32 16) q2 16 16) q2 0 16) = zk102
      refine oG X101 tt 5 125 #[.val (.int p0),.val (.int p1),oQ q2,oS,oI 4,oI 1,oI 4,oI 4,oI 0,oR b96,oQ zk102,oS] [(.long q2),vI 0,vI 4,(.long zk102)] rfl ?_
      refine own_cS X101 hx hZ hown hh101 (ow132 hw) (ow133 hw) (ow134 hw) (ow135 hw) (y:=mn19) (argsL:=[vI 4,vI 0,(.long q2)]) (rest:=[(.long zk102)]) (W:=2) hml.symm (hb hby at_125) (lenOf pd10 rfl) rfl (by decide) (rm18a118 l Z a0 hw [] q2 T97.heap n0 (oT (oT Z0 E96.1) K97.1) ) fun _ T103 _ X103 hQ103=>?_
      obtain ⟨rfl,N103q,hh103⟩:=hQ103
      have N103:=Fr.app N101 N103q
      obtain ⟨_,X103,N103⟩:=own_hide X103 N103
      refine oV 128 #[.val (.int p0),.val (.int p1),oQ q2,oS,oI 4,oI 1,oI 4,oI 4,oI 0,oR b96,oQ zk102,oS] [(.long q2),(.long zk102)] ?_
      refine oG X103 tt 1 129 #[.val (.int p0),.val (.int p1),oQ q2,oS,oI 4,oI 1,oI 4,oI 4,oI 0,oR b96,oQ zk102,oS] [(.int (lcmpW zk102 q2))] rfl ?_
      refine own_go (T':=T103) (f':=(mkF m 137 #[.val (.int p0),.val (.int p1),oQ q2,oS,oI 4,oI 1,oI 4,oI 4,oI 0,oR b96,oQ zk102,oS] [vI 1])) (fun _ k=>XS.ifNo X103.here hx rfl (hb hby at_129) rfl ((if0 _ _).trans (teq ((own_lc_eq (a:=zk102) (b:=q2)).mpr (hzk102.symm.trans (own_key8 q2)))).2) (own_e X103 tt 132 2 k rfl)) ?_
      refine own_ret X103 (v:=some (vI 1)) (oN Bd.returns) Bd.notSynchronized (fun fs hr=>retN X103 hx (t:=.boolean) Bd.returns (by simp) (hb hby at_137) hr) ?_ (by decide) (by decide)
      unfold Q0
      exact ⟨rfl,N103⟩
    · refine oG X97 tt 3 113 #[.val (.int p0),.val (.int p1),oQ q2,oS,oI 4,oI 1,oI 4,oI 4,oI 1,oR b96,oU,oU] [(.long q2),vI 1,vR b96] rfl ?_
      refine own_cV X97 hx hZ hown eK97 (ow126 hw) (ow127 hw) (notFace_of_selects (args:=#[]) (mvT hZ (ow129 hw))) (ow129 hw) (ow128 hw) (ow3 hw) (ow130 hw) (A96.keep K97) (y:=mn18) (z:=mn18) (argsL:=[vI 1,(.long q2)]) (rest:=[]) (W:=0) hml.symm (hb hby at_113) (lenOf pd12 rfl) rfl (by decide) (rm17a112 l Z a0 hw [] b96 q2 b97a b97h k97b b97c b97e b97f b97g k97d k97i b97j b97l b97m b97n k97k T97.heap n0 (oT (oT Z0 E96.1) K97.1) g97_0 g97_1 g97_2 g97_7 g97_13 g97_18) fun _ T104 _ X104 hQ104=>?_
      obtain ⟨rfl,N104q,hh104⟩:=hQ104
      have N104:=Fr.app N97 N104q
      obtain ⟨_,X104,N104⟩:=own_hide X104 N104
      refine oV 116 #[.val (.int p0),.val (.int p1),oQ q2,oS,oI 4,oI 1,oI 4,oI 4,oI 1,oR b96,oU,oU] [(.long (kf (kf (kf (kf 0 q2 48 16) q2 32 16) q2 0 16) q2 16 16))] ?_
      generalize hzk105:(kf (kf (kf (kf 0 q2 48 16) q2 32 16) q2 0 16) q2 16 16) = zk105
      refine oG X104 tt 5 125 #[.val (.int p0),.val (.int p1),oQ q2,oS,oI 4,oI 1,oI 4,oI 4,oI 1,oR b96,oQ zk105,oS] [(.long q2),vI 1,vI 4,(.long zk105)] rfl ?_
      refine own_cS X104 hx hZ hown hh104 (ow132 hw) (ow133 hw) (ow134 hw) (ow135 hw) (y:=mn19) (argsL:=[vI 4,vI 1,(.long q2)]) (rest:=[(.long zk105)]) (W:=2) hml.symm (hb hby at_125) (lenOf pd10 rfl) rfl (by decide) (rm18a119 l Z a0 hw [] q2 T97.heap n0 (oT (oT Z0 E96.1) K97.1) ) fun _ T106 _ X106 hQ106=>?_
      obtain ⟨rfl,N106q,hh106⟩:=hQ106
      have N106:=Fr.app N104 N106q
      obtain ⟨_,X106,N106⟩:=own_hide X106 N106
      refine oV 128 #[.val (.int p0),.val (.int p1),oQ q2,oS,oI 4,oI 1,oI 4,oI 4,oI 1,oR b96,oQ zk105,oS] [(.long ((((((q2.toUInt64 >>> ((48:Int32) &&& 0x3f).toInt64.toUInt64).toInt64) <<< ((48:Int32) &&& 0x3f).toInt64) ||| ((((q2.toUInt64 >>> ((32:Int32) &&& 0x3f).toInt64.toUInt64).toInt64) &&& (65535:Int64)) <<< ((32:Int32) &&& 0x3f).toInt64)) ||| ((q2 &&& (65535:Int64)) <<< ((16:Int32) &&& 0x3f).toInt64)) ||| (((q2.toUInt64 >>> ((16:Int32) &&& 0x3f).toInt64.toUInt64).toInt64) &&& (65535:Int64)))),(.long zk105)] ?_
      generalize hzk107:((((((q2.toUInt64 >>> ((48:Int32) &&& 0x3f).toInt64.toUInt64).toInt64) <<< ((48:Int32) &&& 0x3f).toInt64) ||| ((((q2.toUInt64 >>> ((32:Int32) &&& 0x3f).toInt64.toUInt64).toInt64) &&& (65535:Int64)) <<< ((32:Int32) &&& 0x3f).toInt64)) ||| ((q2 &&& (65535:Int64)) <<< ((16:Int32) &&& 0x3f).toInt64)) ||| (((q2.toUInt64 >>> ((16:Int32) &&& 0x3f).toInt64.toUInt64).toInt64) &&& (65535:Int64))) = zk107
      refine oG X106 tt 1 129 #[.val (.int p0),.val (.int p1),oQ q2,oS,oI 4,oI 1,oI 4,oI 4,oI 1,oR b96,oQ zk105,oS] [(.int (lcmpW zk105 zk107))] rfl ?_
      refine own_go (T':=T106) (f':=(mkF m 137 #[.val (.int p0),.val (.int p1),oQ q2,oS,oI 4,oI 1,oI 4,oI 4,oI 1,oR b96,oQ zk105,oS] [vI 1])) (fun _ k=>XS.ifNo X106.here hx rfl (hb hby at_129) rfl ((if0 _ _).trans (teq ((own_lc_eq (a:=zk105) (b:=zk107)).mpr (hzk105.symm.trans ((own_key9 q2).trans hzk107)))).2) (own_e X106 tt 132 2 k rfl)) ?_
      refine own_ret X106 (v:=some (vI 1)) (oN Bd.returns) Bd.notSynchronized (fun fs hr=>retN X106 hx (t:=.boolean) Bd.returns (by simp) (hb hby at_137) hr) ?_ (by decide) (by decide)
      unfold Q0
      exact ⟨rfl,N106⟩
    · refine oG X97 tt 3 113 #[.val (.int p0),.val (.int p1),oQ q2,oS,oI 4,oI 1,oI 4,oI 4,oI 2,oR b96,oU,oU] [(.long q2),vI 2,vR b96] rfl ?_
      refine own_cV X97 hx hZ hown eK97 (ow126 hw) (ow127 hw) (notFace_of_selects (args:=#[]) (mvT hZ (ow129 hw))) (ow129 hw) (ow128 hw) (ow3 hw) (ow130 hw) (A96.keep K97) (y:=mn18) (z:=mn18) (argsL:=[vI 2,(.long q2)]) (rest:=[]) (W:=0) hml.symm (hb hby at_113) (lenOf pd12 rfl) rfl (by decide) (rm17a113 l Z a0 hw [] b96 q2 b97a b97h k97b b97c b97e b97f b97g k97d k97i b97j b97l b97m b97n k97k T97.heap n0 (oT (oT Z0 E96.1) K97.1) g97_0 g97_1 g97_2 g97_9 g97_13 g97_20) fun _ T108 _ X108 hQ108=>?_
      obtain ⟨rfl,N108q,hh108⟩:=hQ108
      have N108:=Fr.app N97 N108q
      obtain ⟨_,X108,N108⟩:=own_hide X108 N108
      refine oV 116 #[.val (.int p0),.val (.int p1),oQ q2,oS,oI 4,oI 1,oI 4,oI 4,oI 2,oR b96,oU,oU] [(.long (kf (kf (kf (kf 0 q2 48 16) q2 16 16) q2 0 16) q2 32 16))] ?_
      generalize hzk109:(kf (kf (kf (kf 0 q2 48 16) q2 16 16) q2 0 16) q2 32 16) = zk109
      refine oG X108 tt 5 125 #[.val (.int p0),.val (.int p1),oQ q2,oS,oI 4,oI 1,oI 4,oI 4,oI 2,oR b96,oQ zk109,oS] [(.long q2),vI 2,vI 4,(.long zk109)] rfl ?_
      refine own_cS X108 hx hZ hown hh108 (ow132 hw) (ow133 hw) (ow134 hw) (ow135 hw) (y:=mn19) (argsL:=[vI 4,vI 2,(.long q2)]) (rest:=[(.long zk109)]) (W:=2) hml.symm (hb hby at_125) (lenOf pd10 rfl) rfl (by decide) (rm18a120 l Z a0 hw [] q2 T97.heap n0 (oT (oT Z0 E96.1) K97.1) ) fun _ T110 _ X110 hQ110=>?_
      obtain ⟨rfl,N110q,hh110⟩:=hQ110
      have N110:=Fr.app N108 N110q
      obtain ⟨_,X110,N110⟩:=own_hide X110 N110
      refine oV 128 #[.val (.int p0),.val (.int p1),oQ q2,oS,oI 4,oI 1,oI 4,oI 4,oI 2,oR b96,oQ zk109,oS] [(.long ((((((q2.toUInt64 >>> ((48:Int32) &&& 0x3f).toInt64.toUInt64).toInt64) <<< ((48:Int32) &&& 0x3f).toInt64) ||| ((((q2.toUInt64 >>> ((16:Int32) &&& 0x3f).toInt64.toUInt64).toInt64) &&& (65535:Int64)) <<< ((32:Int32) &&& 0x3f).toInt64)) ||| ((q2 &&& (65535:Int64)) <<< ((16:Int32) &&& 0x3f).toInt64)) ||| (((q2.toUInt64 >>> ((32:Int32) &&& 0x3f).toInt64.toUInt64).toInt64) &&& (65535:Int64)))),(.long zk109)] ?_
      generalize hzk111:((((((q2.toUInt64 >>> ((48:Int32) &&& 0x3f).toInt64.toUInt64).toInt64) <<< ((48:Int32) &&& 0x3f).toInt64) ||| ((((q2.toUInt64 >>> ((16:Int32) &&& 0x3f).toInt64.toUInt64).toInt64) &&& (65535:Int64)) <<< ((32:Int32) &&& 0x3f).toInt64)) ||| ((q2 &&& (65535:Int64)) <<< ((16:Int32) &&& 0x3f).toInt64)) ||| (((q2.toUInt64 >>> ((32:Int32) &&& 0x3f).toInt64.toUInt64).toInt64) &&& (65535:Int64))) = zk111
      refine oG X110 tt 1 129 #[.val (.int p0),.val (.int p1),oQ q2,oS,oI 4,oI 1,oI 4,oI 4,oI 2,oR b96,oQ zk109,oS] [(.int (lcmpW zk109 zk111))] rfl ?_
      refine own_go (T':=T110) (f':=(mkF m 137 #[.val (.int p0),.val (.int p1),oQ q2,oS,oI 4,oI 1,oI 4,oI 4,oI 2,oR b96,oQ zk109,oS] [vI 1])) (fun _ k=>XS.ifNo X110.here hx rfl (hb hby at_129) rfl ((if0 _ _).trans (teq ((own_lc_eq (a:=zk109) (b:=zk111)).mpr (hzk109.symm.trans ((own_key10 q2).trans hzk111)))).2) (own_e X110 tt 132 2 k rfl)) ?_
      refine own_ret X110 (v:=some (vI 1)) (oN Bd.returns) Bd.notSynchronized (fun fs hr=>retN X110 hx (t:=.boolean) Bd.returns (by simp) (hb hby at_137) hr) ?_ (by decide) (by decide)
      unfold Q0
      exact ⟨rfl,N110⟩
    · refine oG X97 tt 3 113 #[.val (.int p0),.val (.int p1),oQ q2,oS,oI 4,oI 1,oI 4,oI 4,oI 3,oR b96,oU,oU] [(.long q2),vI 3,vR b96] rfl ?_
      refine own_cV X97 hx hZ hown eK97 (ow126 hw) (ow127 hw) (notFace_of_selects (args:=#[]) (mvT hZ (ow129 hw))) (ow129 hw) (ow128 hw) (ow3 hw) (ow130 hw) (A96.keep K97) (y:=mn18) (z:=mn18) (argsL:=[vI 3,(.long q2)]) (rest:=[]) (W:=0) hml.symm (hb hby at_113) (lenOf pd12 rfl) rfl (by decide) (rm17a115 l Z a0 hw [] b96 q2 b97a b97h k97b b97c b97e b97f b97g k97d k97i b97j b97l b97m b97n k97k T97.heap n0 (oT (oT Z0 E96.1) K97.1) g97_0 g97_1 g97_2 g97_11 g97_13 g97_22) fun _ T112 _ X112 hQ112=>?_
      obtain ⟨rfl,N112q,hh112⟩:=hQ112
      have N112:=Fr.app N97 N112q
      obtain ⟨_,X112,N112⟩:=own_hide X112 N112
      refine oV 116 #[.val (.int p0),.val (.int p1),oQ q2,oS,oI 4,oI 1,oI 4,oI 4,oI 3,oR b96,oU,oU] [(.long (kf (kf (kf (kf 0 q2 32 16) q2 16 16) q2 0 16) q2 48 16))] ?_
      generalize hzk113:(kf (kf (kf (kf 0 q2 32 16) q2 16 16) q2 0 16) q2 48 16) = zk113
      refine oG X112 tt 5 125 #[.val (.int p0),.val (.int p1),oQ q2,oS,oI 4,oI 1,oI 4,oI 4,oI 3,oR b96,oQ zk113,oS] [(.long q2),vI 3,vI 4,(.long zk113)] rfl ?_
      refine own_cS X112 hx hZ hown hh112 (ow132 hw) (ow133 hw) (ow134 hw) (ow135 hw) (y:=mn19) (argsL:=[vI 4,vI 3,(.long q2)]) (rest:=[(.long zk113)]) (W:=2) hml.symm (hb hby at_125) (lenOf pd10 rfl) rfl (by decide) (rm18a121 l Z a0 hw [] q2 T97.heap n0 (oT (oT Z0 E96.1) K97.1) ) fun _ T114 _ X114 hQ114=>?_
      obtain ⟨rfl,N114q,hh114⟩:=hQ114
      have N114:=Fr.app N112 N114q
      obtain ⟨_,X114,N114⟩:=own_hide X114 N114
      refine oV 128 #[.val (.int p0),.val (.int p1),oQ q2,oS,oI 4,oI 1,oI 4,oI 4,oI 3,oR b96,oQ zk113,oS] [(.long (((((((q2.toUInt64 >>> ((32:Int32) &&& 0x3f).toInt64.toUInt64).toInt64) &&& (65535:Int64)) <<< ((48:Int32) &&& 0x3f).toInt64) ||| ((((q2.toUInt64 >>> ((16:Int32) &&& 0x3f).toInt64.toUInt64).toInt64) &&& (65535:Int64)) <<< ((32:Int32) &&& 0x3f).toInt64)) ||| ((q2 &&& (65535:Int64)) <<< ((16:Int32) &&& 0x3f).toInt64)) ||| ((q2.toUInt64 >>> ((48:Int32) &&& 0x3f).toInt64.toUInt64).toInt64))),(.long zk113)] ?_
      generalize hzk115:(((((((q2.toUInt64 >>> ((32:Int32) &&& 0x3f).toInt64.toUInt64).toInt64) &&& (65535:Int64)) <<< ((48:Int32) &&& 0x3f).toInt64) ||| ((((q2.toUInt64 >>> ((16:Int32) &&& 0x3f).toInt64.toUInt64).toInt64) &&& (65535:Int64)) <<< ((32:Int32) &&& 0x3f).toInt64)) ||| ((q2 &&& (65535:Int64)) <<< ((16:Int32) &&& 0x3f).toInt64)) ||| ((q2.toUInt64 >>> ((48:Int32) &&& 0x3f).toInt64.toUInt64).toInt64)) = zk115
      refine oG X114 tt 1 129 #[.val (.int p0),.val (.int p1),oQ q2,oS,oI 4,oI 1,oI 4,oI 4,oI 3,oR b96,oQ zk113,oS] [(.int (lcmpW zk113 zk115))] rfl ?_
      refine own_go (T':=T114) (f':=(mkF m 137 #[.val (.int p0),.val (.int p1),oQ q2,oS,oI 4,oI 1,oI 4,oI 4,oI 3,oR b96,oQ zk113,oS] [vI 1])) (fun _ k=>XS.ifNo X114.here hx rfl (hb hby at_129) rfl ((if0 _ _).trans (teq ((own_lc_eq (a:=zk113) (b:=zk115)).mpr (hzk113.symm.trans ((own_key11 q2).trans hzk115)))).2) (own_e X114 tt 132 2 k rfl)) ?_
      refine own_ret X114 (v:=some (vI 1)) (oN Bd.returns) Bd.notSynchronized (fun fs hr=>retN X114 hx (t:=.boolean) Bd.returns (by simp) (hb hby at_137) hr) ?_ (by decide) (by decide)
      unfold Q0
      exact ⟨rfl,N114⟩
theorem own_empty {s : State} {args : Array Value} {t : Term} {a : Addr} {ty : FieldType} (hf : Fit s) (ev : t.eval args s none [] s = some (.ref a)) (hao : (Cond.arrayOf t ty).before args s = true) (hlen : (Cond.eq (.length t) (.int (0 : Int32))).before args s = true) : ∃ k : ClassId, Arv s s.heap a k ty (0 : Int32) [] .null := by
  obtain ⟨cell, A⟩ := Arr.start ev (Cond.before_iff.mp hao)
  obtain ⟨hsz, hsize⟩ := Jvm.Free.IntBox.length_fwd hlen ev A.1 A.2.1 A.2.2
  exact ⟨cell.cls, Arv.start hf A hsz hsize (by decide) (by decide) trivial⟩
set_option maxRecDepth 65536 in
set_option maxHeartbeats 40000000 in
theorem comes_1 {Post : Tables → Env → Array Value → State → Outcome → State → Prop} (hpost : ∀ tb e args s v u, (limb_1_1.after args s (.returned v) u = true ∧ limb_1_2.after args s (.returned v) u = true ∧ True) → FrameEnd s (.returned v) u (Jvm.fieldLocs frame_1_writes args s ++ Jvm.arrayLocs frame_1_arrays args s ++ Jvm.staticLocs frame_1_statics s) 80 320 → Post tb e args s (.returned v) u) :
    ArmFor flags0 classFile x code maxLocals ret World_1 tables_1 room_1 Calls_1 rest_1 Pre_1 Post := by
  intro l hfl _ _ p e ha hc hk s m args below hf hA hF happ hP
  obtain ⟨hcalls, hrest, hpre⟩ := hP
  obtain ⟨-, -, -, hnamed, -, -, -, hat⟩ := (Spec.applies_iff hf).mp happ
  obtain ⟨hg, hn⟩ := and_e (Cond.before_iff.mp (show (Jvm.Cond.and given_1 narrow_1).before args s = true from hpre))
  obtain ⟨hg_2, hg_3⟩ := and_e hg
  obtain ⟨hg_4, hg_5⟩ := and_e hg_3
  obtain ⟨hg_6, hg_7⟩ := and_e hg_5
  obtain ⟨w0, w1, w2, rfl⟩ : ∃ w0 w1 w2 : Value, args = #[w0, w1, w2] := by
    have hs : args.size = 3 := by simpa [Cond.value, given_1] using hg_2
    obtain ⟨L⟩ := args
    match L, hs with
    | [w0, w1, w2], _ => exact ⟨w0, w1, w2, rfl⟩
  have hw := fun d (hd : d ∈ tables_1) => atoms_spec (ws := Jvm.Cond.code x code maxLocals ret :: tables_1) hat d (List.mem_cons_of_mem _ hd)
  have hfit : Fit s := fun {y c} hc i hi => by
    obtain ⟨ha, rfl⟩ := Array.getElem?_eq_some_iff.mp hc
    have q := List.all_eq_true.mp ((Array.all_eq_true_iff_forall_mem.mp hF) _ (Array.getElem_mem ha)) i (List.mem_range.mpr hi)
    simpa [Array.getElem?_eq_getElem hi] using q
  obtain ⟨hsets, hown0⟩ := atoms_of _ (rest_1_c_eq ▸ (show rest_1_c.before _ s = true from hrest))
  have hr0 := Cond.before_iff.mp hown0
  obtain ⟨i0, ei0⟩ := is_v hg_4
  obtain rfl : w0 = (.int i0) := Option.some.inj ei0
  obtain ⟨i1, ei1⟩ := is_v hg_6
  obtain rfl : w1 = (.int i1) := Option.some.inj ei1
  obtain ⟨i2, ei2⟩ := isL_v hg_7
  obtain rfl : w2 = (.long i2) := Option.some.inj ei2
  obtain ⟨wd, ewd⟩ := exa_v (Cond.before_iff.mp (hsets _ (List.mem_of_getElem? (i := 7) rfl)))
  have S_d : Sta s s.heap "java/util/ArrayList" "DEFAULTCAPACITY_EMPTY_ELEMENTDATA" "[Ljava/lang/Object;" (.ref wd) := Sta.start ewd (Or.inr ⟨(ow13 hw), (hsets _ (List.mem_of_getElem? (i := 2) rfl))⟩)
  obtain ⟨kd, V_d⟩ := own_empty hfit ewd (hsets _ (List.mem_of_getElem? (i := 6) rfl)) (hsets _ (List.mem_of_getElem? (i := 8) rfl))
  obtain ⟨n, o, h1, h2, h3, _, L, rfl, ⟨rfl, N⟩, hq⟩ := rm0 l s _ hw tables_1 i0 i1 i2 wd kd s.heap s.heap.size (Nat.le_refl _) S_d V_d p e ha hc hk s m _ below hf ((Spec.applies_iff_loose hf).mp happ).1 ⟨rfl, State.Warmed39.refl s, rfl⟩ trivial
  refine ⟨n, _, h1, h2, h3, hpost _ _ _ _ _ _ ⟨Cond.after_iff.mpr rfl, Cond.after_iff.mpr (eq_i res_at (Term.int_eval (1)) rfl), trivial⟩ ⟨hq.1, hq.2.1, (hq.2.2.sift fun y hy => Or.inr (N y hy)).mono (by decide) (by decide)⟩⟩
theorem main_1_1 : Claimed_1_1 := comes_1 fun _ _ _ _ _ _ h hF => ⟨h.1, hF⟩
theorem main_1_2 : Claimed_1_2 := comes_1 fun _ _ _ _ _ _ h hF => ⟨h.2.1, hF⟩
end Jvm.Pilot.@@N@@
namespace Jvm.Pilot.@@N@@
open Jvm Jvm.ClassFile Sem Op Lib Jvm.Free Jvm.Stand Jvm.Pilot.@@N@@.Jvm.D
/-! MADE BY PROGRAM (witnessworld.py) out of the Statement's table words and the real class files: 25 classes; the members and pool entries that the words name. The judged class is class 1, her method 1. -/
namespace start1
open Jvm.ClassFile
def u (s : String) : CpInfo := .utf8 (stringToUtf16 s)
/-- a pool by its gaps: so many unusable entries, then the entry; so many at the end -/
def gap : Nat → List CpInfo → List CpInfo
  | 0, r => r
  | n + 1, r => .unusable :: gap n r
def poolList (es : List (Nat × CpInfo)) (last : Nat) : List CpInfo := es.foldr (fun e r => gap e.1 (e.2 :: r)) (gap last [])
def pool (es : List (Nat × CpInfo)) (last : Nat) : Array CpInfo := ⟨poolList es last⟩
def fileOf (pool : Array CpInfo) (this : Nat) (attrs : Array Attribute := #[]) (ms : Array MethodInfo := #[]) (fl : Nat := 33) (sup : Nat := 0) (ifs : Array Nat := #[]) (fds : Array FieldInfo := #[]) : ClassFile where
  minorVersion := 0
  majorVersion := 65
  constantPool := pool
  accessFlags := fl
  thisClass := this
  superClass := sup
  interfaces := ifs
  fields := fds
  methods := ms
  attributes := attrs
def plain (name : String) (sup : Option ClassId) : Class where
  name := name
  kind := .ordinary
  loader := none
  accessFlags := 33
  super := sup
  interfaces := #[]
  cf := none
  fields := #[]
  methods := #[]
  instanceTypes := #[]
  staticTypes := #[]
  resolved := #[]
  callSites := []
  init := .initialized
  statics := none
  mirror := none

def pool0 : Array CpInfo := pool [(5, u "<init>"), (0, u "()V"), (1, .class_ 10), (1, u "java/lang/Object"), (85, u "clone"), (0, u "()Ljava/lang/Object;")] 26

def k0c0 : Code := { maxStack := 0, maxLocals := 1, code := object_method_1_code, exceptionTable := #[], attributes := #[] }
def k0m0 : Method := { name := "<init>", desc := "()V", sig := { parameters := [], returnType := none }, accessFlags := 1, code := some k0c0 }
def k0m1 : Method := { name := "clone", desc := "()Ljava/lang/Object;", sig := { parameters := [], returnType := some (.object "java/lang/Object") }, accessFlags := 260, code := none }
/-- java/lang/Object -/
def k0 : Class := { plain "java/lang/Object" none with
  accessFlags := 33
  interfaces := #[]
  cf := some (fileOf pool0 8 #[] #[{ accessFlags := 1, nameIndex := 5, descriptorIndex := 6, attributes := #[] }, { accessFlags := 260, nameIndex := 96, descriptorIndex := 97, attributes := #[] }] 33 0 #[] #[])
  fields := #[]
  methods := #[k0m0, k0m1]
  instanceTypes := #[]
  staticTypes := #[]
  resolved := Array.replicate 124 none
  statics := none }

def pool1 : Array CpInfo := pool [(2, .class_ 4), (1, u "java/lang/Object"), (0, u "<init>"), (0, u "()V"), (0, .integer 2147483647), (0, .class_ 9), (0, u "com/example/libakin/libakin/simhash/Layout"), (0, .methodref 8 11), (0, .nameAndType 5 12), (0, u "(II)V"), (0, .methodref 8 14), (0, .nameAndType 15 16), (0, u "key"), (0, u "(IJ)J"), (0, .methodref 18 19), (0, .class_ 20), (0, .nameAndType 21 22), (0, u "com/example/libakin/libakin/simhash/LayoutKeyPinLaw"), (0, u "expected"), (0, u "(IIJ)J"), (0, .long 2097151), (1, .long 65535), (3, u "law"), (0, u "(IIJ)Z")] 3

def k1m0 : Method := { name := "<init>", desc := "()V", sig := { parameters := [], returnType := none }, accessFlags := 1, code := none }
def k1c1 : Code := { maxStack := 6, maxLocals := 12, code := code, exceptionTable := #[], attributes := #[] }
def k1m1 : Method := { name := "law", desc := "(IIJ)Z", sig := { parameters := [.int, .int, .long], returnType := some .boolean }, accessFlags := 9, code := some k1c1 }
def k1c2 : Code := { maxStack := 5, maxLocals := 12, code := method_3_code, exceptionTable := #[], attributes := #[] }
def k1m2 : Method := { name := "expected", desc := "(IIJ)J", sig := { parameters := [.int, .int, .long], returnType := some .long }, accessFlags := 10, code := some k1c2 }
/-- com/example/libakin/libakin/simhash/LayoutKeyPinLaw -/
def k1 : Class := { plain "com/example/libakin/libakin/simhash/LayoutKeyPinLaw" (some 0) with
  accessFlags := 49
  interfaces := #[]
  cf := some (fileOf pool1 18 #[] #[{ accessFlags := 1, nameIndex := 5, descriptorIndex := 6, attributes := #[] }, { accessFlags := 9, nameIndex := 29, descriptorIndex := 30, attributes := #[] }, { accessFlags := 10, nameIndex := 21, descriptorIndex := 22, attributes := #[] }] 49 2 #[] #[])
  fields := #[]
  methods := #[k1m0, k1m1, k1m2]
  instanceTypes := #[]
  staticTypes := #[]
  resolved := Array.replicate 34 none
  statics := none }

def pool2 : Array CpInfo := pool [(1, .methodref 2 3), (0, .class_ 4), (0, .nameAndType 5 6), (0, u "java/lang/Object"), (0, u "<init>"), (0, u "()V"), (2, .class_ 10), (0, u "java/util/ArrayList"), (0, .methodref 9 3), (0, .methodref 13 14), (0, .class_ 15), (0, .nameAndType 16 17), (0, u "com/example/libakin/libakin/simhash/Layout"), (0, u "choose"), (0, u "(III[IILjava/util/List;)V"), (0, .interfaceMethodref 19 20), (0, .class_ 21), (0, .nameAndType 22 23), (0, u "java/util/List"), (0, u "size"), (0, u "()I"), (0, .class_ 25), (0, u "[[I"), (0, .fieldref 13 27), (0, .nameAndType 28 25), (0, u "fromShifts"), (0, .fieldref 13 30), (0, .nameAndType 31 25), (0, u "widths"), (0, .fieldref 13 33), (0, .nameAndType 34 35), (0, u "prefixes"), (0, u "[I"), (0, .interfaceMethodref 19 37), (0, .nameAndType 38 39), (0, u "get"), (0, u "(I)Ljava/lang/Object;"), (0, .class_ 35), (0, .class_ 42), (0, u "[J"), (0, .fieldref 13 44), (0, .nameAndType 45 46), (0, u "earlierPrefixes"), (0, u "[[J"), (0, .methodref 13 48), (0, .nameAndType 49 50), (0, u "unkeyedPrefix"), (0, u "(I)J"), (0, .methodref 13 52), (0, .nameAndType 53 54), (0, u "key"), (0, u "(IJ)J"), (14, u "(II)V"), (16, .long 18446744073709551615), (1, .methodref 40 89), (0, .nameAndType 90 91), (0, u "clone"), (0, u "()Ljava/lang/Object;"), (0, .interfaceMethodref 19 93), (0, .nameAndType 94 95), (0, u "add"), (0, u "(Ljava/lang/Object;)Z"), (0, u "MAX_TABLES"), (0, u "I")] 17

def k2c0 : Code := { maxStack := 6, maxLocals := 13, code := prog_28_method_1_code, exceptionTable := #[], attributes := #[] }
def k2m0 : Method := { name := "<init>", desc := "(II)V", sig := { parameters := [.int, .int], returnType := none }, accessFlags := 0, code := some k2c0 }
def k2c1 : Code := { maxStack := 7, maxLocals := 9, code := prog_28_method_6_code, exceptionTable := #[], attributes := #[] }
def k2m1 : Method := { name := "key", desc := "(IJ)J", sig := { parameters := [.int, .long], returnType := some .long }, accessFlags := 0, code := some k2c1 }
def k2c2 : Code := { maxStack := 7, maxLocals := 6, code := prog_28_method_8_code, exceptionTable := #[], attributes := #[] }
def k2m2 : Method := { name := "unkeyedPrefix", desc := "(I)J", sig := { parameters := [.int], returnType := some .long }, accessFlags := 2, code := some k2c2 }
def k2c3 : Code := { maxStack := 6, maxLocals := 7, code := prog_28_method_10_code, exceptionTable := #[], attributes := #[] }
def k2m3 : Method := { name := "choose", desc := "(III[IILjava/util/List;)V", sig := { parameters := [.int, .int, .int, (.array .int), .int, (.object "java/util/List")], returnType := none }, accessFlags := 10, code := some k2c3 }
/-- com/example/libakin/libakin/simhash/Layout -/
def k2 : Class := { plain "com/example/libakin/libakin/simhash/Layout" (some 0) with
  accessFlags := 48
  interfaces := #[]
  cf := some (fileOf pool2 13 #[] #[{ accessFlags := 0, nameIndex := 5, descriptorIndex := 69, attributes := #[] }, { accessFlags := 0, nameIndex := 53, descriptorIndex := 54, attributes := #[] }, { accessFlags := 2, nameIndex := 49, descriptorIndex := 50, attributes := #[] }, { accessFlags := 10, nameIndex := 16, descriptorIndex := 17, attributes := #[] }] 48 2 #[] #[{ accessFlags := 24, nameIndex := 96, descriptorIndex := 97, attributes := #[] }, { accessFlags := 18, nameIndex := 28, descriptorIndex := 25, attributes := #[] }, { accessFlags := 18, nameIndex := 31, descriptorIndex := 25, attributes := #[] }, { accessFlags := 18, nameIndex := 34, descriptorIndex := 35, attributes := #[] }, { accessFlags := 18, nameIndex := 45, descriptorIndex := 46, attributes := #[] }])
  fields := #[{ name := "MAX_TABLES", type := .int, accessFlags := 24, slot := 0, constantValue := 0 }, { name := "fromShifts", type := (.array (.array .int)), accessFlags := 18, slot := 0, constantValue := 0 }, { name := "widths", type := (.array (.array .int)), accessFlags := 18, slot := 1, constantValue := 0 }, { name := "prefixes", type := (.array .int), accessFlags := 18, slot := 2, constantValue := 0 }, { name := "earlierPrefixes", type := (.array (.array .long)), accessFlags := 18, slot := 3, constantValue := 0 }]
  methods := #[k2m0, k2m1, k2m2, k2m3]
  instanceTypes := #[(.array (.array .int)), (.array (.array .int)), (.array .int), (.array (.array .long))]
  staticTypes := #[.int]
  resolved := Array.replicate 115 none
  statics := none }

def pool3 : Array CpInfo := pool [(8, .class_ 10), (1, u "java/lang/Iterable"), (24, .class_ 36), (0, u "java/lang/Object")] 25

/-- java/lang/Iterable -/
def k3 : Class := { plain "java/lang/Iterable" (some 0) with
  accessFlags := 1537
  interfaces := #[]
  cf := some (fileOf pool3 8 #[] #[] 1537 35 #[] #[])
  fields := #[]
  methods := #[]
  instanceTypes := #[]
  staticTypes := #[]
  resolved := Array.replicate 62 none
  statics := none }

def pool4 : Array CpInfo := pool [(10, .class_ 12), (1, u "java/util/Collection"), (47, .class_ 61), (0, u "java/lang/Object"), (0, .class_ 63), (0, u "java/lang/Iterable")] 51

/-- java/util/Collection -/
def k4 : Class := { plain "java/util/Collection" (some 0) with
  accessFlags := 1537
  interfaces := #[3]
  cf := some (fileOf pool4 10 #[] #[] 1537 60 #[62] #[])
  fields := #[]
  methods := #[]
  instanceTypes := #[]
  staticTypes := #[]
  resolved := Array.replicate 115 none
  statics := none }

def pool5 : Array CpInfo := pool [(1, .methodref 2 3), (0, .class_ 4), (0, .nameAndType 5 6), (0, u "java/lang/Object"), (0, u "<init>"), (0, u "()V"), (1, .class_ 10), (1, u "java/util/AbstractCollection"), (66, .class_ 78), (0, u "java/util/Collection")] 81

def k5c0 : Code := { maxStack := 1, maxLocals := 1, code := jdk_22_method_1_code, exceptionTable := #[], attributes := #[] }
def k5m0 : Method := { name := "<init>", desc := "()V", sig := { parameters := [], returnType := none }, accessFlags := 4, code := some k5c0 }
/-- java/util/AbstractCollection -/
def k5 : Class := { plain "java/util/AbstractCollection" (some 0) with
  accessFlags := 1057
  interfaces := #[4]
  cf := some (fileOf pool5 8 #[] #[{ accessFlags := 4, nameIndex := 5, descriptorIndex := 6, attributes := #[] }] 1057 2 #[77] #[])
  fields := #[]
  methods := #[k5m0]
  instanceTypes := #[]
  staticTypes := #[]
  resolved := Array.replicate 160 none
  statics := none }

def pool6 : Array CpInfo := pool [(8, .class_ 10), (1, u "java/util/SequencedCollection"), (15, .class_ 27), (0, u "java/lang/Object"), (0, .class_ 29), (0, u "java/util/Collection")] 27

/-- java/util/SequencedCollection -/
def k6 : Class := { plain "java/util/SequencedCollection" (some 0) with
  accessFlags := 1537
  interfaces := #[4]
  cf := some (fileOf pool6 8 #[] #[] 1537 26 #[28] #[])
  fields := #[]
  methods := #[]
  instanceTypes := #[]
  staticTypes := #[]
  resolved := Array.replicate 57 none
  statics := none }

def pool7 : Array CpInfo := pool [(8, .class_ 10), (1, u "java/util/List"), (49, u "add"), (3, u "(Ljava/lang/Object;)Z"), (10, u "get"), (0, u "(I)Ljava/lang/Object;"), (2, u "size"), (0, u "()I"), (22, .class_ 104), (0, u "java/lang/Object"), (15, .class_ 121), (0, u "java/util/SequencedCollection")] 129

def k7m0 : Method := { name := "size", desc := "()I", sig := { parameters := [], returnType := some .int }, accessFlags := 1025, code := none }
def k7m1 : Method := { name := "add", desc := "(Ljava/lang/Object;)Z", sig := { parameters := [(.object "java/lang/Object")], returnType := some .boolean }, accessFlags := 1025, code := none }
def k7m2 : Method := { name := "get", desc := "(I)Ljava/lang/Object;", sig := { parameters := [.int], returnType := some (.object "java/lang/Object") }, accessFlags := 1025, code := none }
/-- java/util/List -/
def k7 : Class := { plain "java/util/List" (some 0) with
  accessFlags := 1537
  interfaces := #[6]
  cf := some (fileOf pool7 8 #[] #[{ accessFlags := 1025, nameIndex := 79, descriptorIndex := 80, attributes := #[] }, { accessFlags := 1025, nameIndex := 60, descriptorIndex := 64, attributes := #[] }, { accessFlags := 1025, nameIndex := 75, descriptorIndex := 76, attributes := #[] }] 1537 103 #[120] #[])
  fields := #[]
  methods := #[k7m0, k7m1, k7m2]
  instanceTypes := #[]
  staticTypes := #[]
  resolved := Array.replicate 251 none
  statics := none }

def pool8 : Array CpInfo := pool [(1, .methodref 2 3), (0, .class_ 4), (0, .nameAndType 5 6), (0, u "java/util/AbstractCollection"), (0, u "<init>"), (0, u "()V"), (0, .fieldref 8 9), (0, .class_ 10), (0, .nameAndType 11 12), (0, u "java/util/AbstractList"), (0, u "modCount"), (0, u "I"), (64, .class_ 78), (0, u "java/util/AbstractList$Itr"), (3, .class_ 83), (0, u "java/util/AbstractList$ListItr"), (9, .class_ 94), (0, u "java/util/AbstractList$RandomAccessSubList"), (3, .class_ 99), (0, u "java/util/AbstractList$SubList"), (33, .class_ 134), (0, u "java/util/List"), (73, .class_ 209), (0, u "java/util/AbstractList$SubList$1"), (0, .class_ 211), (0, u "java/util/AbstractList$RandomAccessSpliterator")] 6

def k8c0 : Code := { maxStack := 2, maxLocals := 1, code := jdk_39_method_1_code, exceptionTable := #[], attributes := #[] }
def k8m0 : Method := { name := "<init>", desc := "()V", sig := { parameters := [], returnType := none }, accessFlags := 4, code := some k8c0 }
/-- java/util/AbstractList -/
def k8 : Class := { plain "java/util/AbstractList" (some 5) with
  accessFlags := 1057
  interfaces := #[7]
  cf := some (fileOf pool8 8 #[.nestMembers #[93, 98, 208, 210, 82, 77]] #[{ accessFlags := 4, nameIndex := 5, descriptorIndex := 6, attributes := #[] }] 1057 2 #[133] #[{ accessFlags := 132, nameIndex := 11, descriptorIndex := 12, attributes := #[] }])
  fields := #[{ name := "modCount", type := .int, accessFlags := 132, slot := 0, constantValue := 0 }]
  methods := #[k8m0]
  instanceTypes := #[.int]
  staticTypes := #[]
  resolved := Array.replicate 218 none
  statics := none }

def pool9 : Array CpInfo := pool [(1, .class_ 2), (0, u "java/util/RandomAccess"), (0, .class_ 4), (0, u "java/lang/Object")] 2

/-- java/util/RandomAccess -/
def k9 : Class := { plain "java/util/RandomAccess" (some 0) with
  accessFlags := 1537
  interfaces := #[]
  cf := some (fileOf pool9 1 #[] #[] 1537 3 #[] #[])
  fields := #[]
  methods := #[]
  instanceTypes := #[]
  staticTypes := #[]
  resolved := Array.replicate 7 none
  statics := none }

def pool10 : Array CpInfo := pool [(1, .class_ 2), (0, u "java/lang/Cloneable"), (0, .class_ 4), (0, u "java/lang/Object")] 2

/-- java/lang/Cloneable -/
def k10 : Class := { plain "java/lang/Cloneable" (some 0) with
  accessFlags := 1537
  interfaces := #[]
  cf := some (fileOf pool10 1 #[] #[] 1537 3 #[] #[])
  fields := #[]
  methods := #[]
  instanceTypes := #[]
  staticTypes := #[]
  resolved := Array.replicate 7 none
  statics := none }

def pool11 : Array CpInfo := pool [(1, .class_ 2), (0, u "java/io/Serializable"), (0, .class_ 4), (0, u "java/lang/Object")] 2

/-- java/io/Serializable -/
def k11 : Class := { plain "java/io/Serializable" (some 0) with
  accessFlags := 1537
  interfaces := #[]
  cf := some (fileOf pool11 1 #[] #[] 1537 3 #[] #[])
  fields := #[]
  methods := #[]
  instanceTypes := #[]
  staticTypes := #[]
  resolved := Array.replicate 7 none
  statics := none }

def pool12 : Array CpInfo := pool [(1, .methodref 2 3), (0, .class_ 4), (0, .nameAndType 5 6), (0, u "java/util/AbstractList"), (0, u "<init>"), (0, u "()V"), (0, .class_ 8), (0, u "java/lang/Object"), (0, .fieldref 10 11), (0, .class_ 12), (0, .nameAndType 13 14), (0, u "java/util/ArrayList"), (0, u "elementData"), (0, u "[Ljava/lang/Object;"), (2, u "EMPTY_ELEMENTDATA"), (21, .fieldref 10 40), (0, .nameAndType 41 14), (0, u "DEFAULTCAPACITY_EMPTY_ELEMENTDATA"), (5, u "()[Ljava/lang/Object;"), (0, .fieldref 10 49), (0, .nameAndType 50 51), (0, u "size"), (0, u "I"), (11, .fieldref 10 64), (0, .nameAndType 65 51), (0, u "modCount"), (3, .methodref 10 70), (0, .nameAndType 71 72), (0, u "grow"), (0, u "(I)[Ljava/lang/Object;"), (6, .methodref 80 81), (0, .class_ 82), (0, .nameAndType 83 84), (0, u "java/lang/Math"), (0, u "max"), (0, u "(II)I"), (11, u "(Ljava/lang/Object;)Z"), (21, .methodref 119 120), (0, .class_ 121), (0, .nameAndType 122 84), (0, u "java/util/Objects"), (0, u "checkIndex"), (0, .methodref 10 124), (0, .nameAndType 13 125), (0, u "(I)Ljava/lang/Object;"), (3, .methodref 10 130), (0, .nameAndType 71 47), (0, .methodref 10 132), (0, .nameAndType 133 134), (0, u "add"), (0, u "(Ljava/lang/Object;[Ljava/lang/Object;I)V"), (13, .class_ 149), (0, u "java/util/List"), (36, u "()I"), (75, .class_ 263), (0, u "java/util/ArrayList$ListItr"), (3, .class_ 268), (0, u "java/util/ArrayList$Itr"), (7, .class_ 277), (0, u "java/util/ArrayList$SubList"), (12, .class_ 291), (0, u "java/util/ArrayList$ArrayListSpliterator"), (37, .class_ 330), (0, u "java/util/RandomAccess"), (0, .class_ 332), (0, u "java/lang/Cloneable"), (0, .class_ 334), (0, u "java/io/Serializable"), (0, u "serialVersionUID"), (0, u "J"), (3, u "DEFAULT_CAPACITY"), (40, u "get"), (118, .class_ 501), (0, u "java/util/ArrayList$SubList$2"), (0, .class_ 503), (0, u "java/util/ArrayList$SubList$1")] 5

def k12c0 : Code := { maxStack := 2, maxLocals := 1, code := jdk_38_method_2_code, exceptionTable := #[], attributes := #[] }
def k12m0 : Method := { name := "<init>", desc := "()V", sig := { parameters := [], returnType := none }, accessFlags := 1, code := some k12c0 }
def k12c1 : Code := { maxStack := 4, maxLocals := 4, code := jdk_38_method_6_code, exceptionTable := #[], attributes := #[] }
def k12m1 : Method := { name := "grow", desc := "(I)[Ljava/lang/Object;", sig := { parameters := [.int], returnType := some (.array (.object "java/lang/Object")) }, accessFlags := 2, code := some k12c1 }
def k12c2 : Code := { maxStack := 3, maxLocals := 1, code := jdk_38_method_7_code, exceptionTable := #[], attributes := #[] }
def k12m2 : Method := { name := "grow", desc := "()[Ljava/lang/Object;", sig := { parameters := [], returnType := some (.array (.object "java/lang/Object")) }, accessFlags := 2, code := some k12c2 }
def k12c3 : Code := { maxStack := 1, maxLocals := 1, code := jdk_38_method_8_code, exceptionTable := #[], attributes := #[] }
def k12m3 : Method := { name := "size", desc := "()I", sig := { parameters := [], returnType := some .int }, accessFlags := 1, code := some k12c3 }
def k12c4 : Code := { maxStack := 2, maxLocals := 2, code := jdk_38_method_18_code, exceptionTable := #[], attributes := #[] }
def k12m4 : Method := { name := "elementData", desc := "(I)Ljava/lang/Object;", sig := { parameters := [.int], returnType := some (.object "java/lang/Object") }, accessFlags := 0, code := some k12c4 }
def k12c5 : Code := { maxStack := 2, maxLocals := 2, code := jdk_38_method_20_code, exceptionTable := #[], attributes := #[] }
def k12m5 : Method := { name := "get", desc := "(I)Ljava/lang/Object;", sig := { parameters := [.int], returnType := some (.object "java/lang/Object") }, accessFlags := 1, code := some k12c5 }
def k12c6 : Code := { maxStack := 3, maxLocals := 4, code := jdk_38_method_24_code, exceptionTable := #[], attributes := #[] }
def k12m6 : Method := { name := "add", desc := "(Ljava/lang/Object;[Ljava/lang/Object;I)V", sig := { parameters := [(.object "java/lang/Object"), (.array (.object "java/lang/Object")), .int], returnType := none }, accessFlags := 2, code := some k12c6 }
def k12c7 : Code := { maxStack := 4, maxLocals := 2, code := jdk_38_method_25_code, exceptionTable := #[], attributes := #[] }
def k12m7 : Method := { name := "add", desc := "(Ljava/lang/Object;)Z", sig := { parameters := [(.object "java/lang/Object")], returnType := some .boolean }, accessFlags := 1, code := some k12c7 }
/-- java/util/ArrayList -/
def k12 : Class := { plain "java/util/ArrayList" (some 8) with
  accessFlags := 33
  interfaces := #[7, 9, 10, 11]
  cf := some (fileOf pool12 10 #[.nestMembers #[290, 276, 500, 502, 262, 267]] #[{ accessFlags := 1, nameIndex := 5, descriptorIndex := 6, attributes := #[] }, { accessFlags := 2, nameIndex := 71, descriptorIndex := 72, attributes := #[] }, { accessFlags := 2, nameIndex := 71, descriptorIndex := 47, attributes := #[] }, { accessFlags := 1, nameIndex := 50, descriptorIndex := 186, attributes := #[] }, { accessFlags := 0, nameIndex := 13, descriptorIndex := 125, attributes := #[] }, { accessFlags := 1, nameIndex := 381, descriptorIndex := 125, attributes := #[] }, { accessFlags := 2, nameIndex := 133, descriptorIndex := 134, attributes := #[] }, { accessFlags := 1, nameIndex := 133, descriptorIndex := 96, attributes := #[] }] 33 2 #[148, 329, 331, 333] #[{ accessFlags := 26, nameIndex := 335, descriptorIndex := 336, attributes := #[] }, { accessFlags := 26, nameIndex := 340, descriptorIndex := 51, attributes := #[] }, { accessFlags := 26, nameIndex := 17, descriptorIndex := 14, attributes := #[] }, { accessFlags := 26, nameIndex := 41, descriptorIndex := 14, attributes := #[] }, { accessFlags := 128, nameIndex := 13, descriptorIndex := 14, attributes := #[] }, { accessFlags := 2, nameIndex := 50, descriptorIndex := 51, attributes := #[] }])
  fields := #[{ name := "serialVersionUID", type := .long, accessFlags := 26, slot := 0, constantValue := 0 }, { name := "DEFAULT_CAPACITY", type := .int, accessFlags := 26, slot := 1, constantValue := 0 }, { name := "EMPTY_ELEMENTDATA", type := (.array (.object "java/lang/Object")), accessFlags := 26, slot := 2, constantValue := 0 }, { name := "DEFAULTCAPACITY_EMPTY_ELEMENTDATA", type := (.array (.object "java/lang/Object")), accessFlags := 26, slot := 3, constantValue := 0 }, { name := "elementData", type := (.array (.object "java/lang/Object")), accessFlags := 128, slot := 1, constantValue := 0 }, { name := "size", type := .int, accessFlags := 2, slot := 2, constantValue := 0 }]
  methods := #[k12m0, k12m1, k12m2, k12m3, k12m4, k12m5, k12m6, k12m7]
  instanceTypes := #[.int, (.array (.object "java/lang/Object")), .int]
  staticTypes := #[.long, .int, (.array (.object "java/lang/Object")), (.array (.object "java/lang/Object"))]
  resolved := Array.replicate 509 none
  statics := some 0 }

def pool13 : Array CpInfo := pool [(1, .class_ 2), (0, u "java/lang/Math"), (1, .class_ 6), (1, u "java/lang/Object"), (0, u "<init>"), (0, u "()V"), (89, .class_ 100), (1, u "java/lang/Math$RandomNumberGeneratorHolder"), (71, u "negativeZeroFloatBits"), (0, u "J"), (2, u "negativeZeroDoubleBits"), (21, u "max"), (46, u "$assertionsDisabled"), (0, u "Z"), (88, u "(II)I"), (2, u "twoToTheDoubleScaleDown"), (0, u "D"), (4, u "twoToTheDoubleScaleUp"), (9, u "E"), (3, u "PI"), (2, u "TAU"), (2, u "DEGREES_TO_RADIANS"), (0, u "RADIANS_TO_DEGREES")] 94

def k13m0 : Method := { name := "<init>", desc := "()V", sig := { parameters := [], returnType := none }, accessFlags := 2, code := none }
def k13c1 : Code := { maxStack := 2, maxLocals := 2, code := jdk_29_method_65_code, exceptionTable := #[], attributes := #[] }
def k13m1 : Method := { name := "max", desc := "(II)I", sig := { parameters := [.int, .int], returnType := some .int }, accessFlags := 9, code := some k13c1 }
/-- java/lang/Math -/
def k13 : Class := { plain "java/lang/Math" (some 0) with
  accessFlags := 49
  interfaces := #[]
  cf := some (fileOf pool13 1 #[.nestMembers #[98]] #[{ accessFlags := 2, nameIndex := 7, descriptorIndex := 8, attributes := #[] }, { accessFlags := 9, nameIndex := 198, descriptorIndex := 335, attributes := #[] }] 49 4 #[] #[{ accessFlags := 25, nameIndex := 354, descriptorIndex := 339, attributes := #[] }, { accessFlags := 25, nameIndex := 358, descriptorIndex := 339, attributes := #[] }, { accessFlags := 25, nameIndex := 361, descriptorIndex := 339, attributes := #[] }, { accessFlags := 26, nameIndex := 364, descriptorIndex := 339, attributes := #[] }, { accessFlags := 26, nameIndex := 365, descriptorIndex := 339, attributes := #[] }, { accessFlags := 26, nameIndex := 172, descriptorIndex := 173, attributes := #[] }, { accessFlags := 26, nameIndex := 176, descriptorIndex := 173, attributes := #[] }, { accessFlags := 8, nameIndex := 344, descriptorIndex := 339, attributes := #[] }, { accessFlags := 8, nameIndex := 338, descriptorIndex := 339, attributes := #[] }, { accessFlags := 4120, nameIndex := 245, descriptorIndex := 246, attributes := #[] }])
  fields := #[{ name := "E", type := .double, accessFlags := 25, slot := 0, constantValue := 0 }, { name := "PI", type := .double, accessFlags := 25, slot := 1, constantValue := 0 }, { name := "TAU", type := .double, accessFlags := 25, slot := 2, constantValue := 0 }, { name := "DEGREES_TO_RADIANS", type := .double, accessFlags := 26, slot := 3, constantValue := 0 }, { name := "RADIANS_TO_DEGREES", type := .double, accessFlags := 26, slot := 4, constantValue := 0 }, { name := "negativeZeroFloatBits", type := .long, accessFlags := 26, slot := 5, constantValue := 0 }, { name := "negativeZeroDoubleBits", type := .long, accessFlags := 26, slot := 6, constantValue := 0 }, { name := "twoToTheDoubleScaleUp", type := .double, accessFlags := 8, slot := 7, constantValue := 0 }, { name := "twoToTheDoubleScaleDown", type := .double, accessFlags := 8, slot := 8, constantValue := 0 }, { name := "$assertionsDisabled", type := .boolean, accessFlags := 4120, slot := 9, constantValue := 0 }]
  methods := #[k13m0, k13m1]
  instanceTypes := #[]
  staticTypes := #[.double, .double, .double, .double, .double, .long, .long, .double, .double, .boolean]
  resolved := Array.replicate 460 none
  statics := none }

def pool14 : Array CpInfo := pool [(2, .class_ 4), (1, u "java/lang/Object"), (0, u "<init>"), (0, u "()V"), (35, .class_ 44), (1, u "java/util/Objects"), (60, .methodref 106 107), (0, .class_ 108), (0, .nameAndType 109 110), (0, u "jdk/internal/util/Preconditions"), (0, u "checkIndex"), (0, u "(IILjava/util/function/BiFunction;)I"), (60, u "(II)I")] 12

def k14m0 : Method := { name := "<init>", desc := "()V", sig := { parameters := [], returnType := none }, accessFlags := 2, code := none }
def k14c1 : Code := { maxStack := 3, maxLocals := 2, code := jdk_31_method_17_code, exceptionTable := #[], attributes := #[] }
def k14m1 : Method := { name := "checkIndex", desc := "(II)I", sig := { parameters := [.int, .int], returnType := some .int }, accessFlags := 9, code := some k14c1 }
/-- java/util/Objects -/
def k14 : Class := { plain "java/util/Objects" (some 0) with
  accessFlags := 49
  interfaces := #[]
  cf := some (fileOf pool14 42 #[] #[{ accessFlags := 2, nameIndex := 5, descriptorIndex := 6, attributes := #[] }, { accessFlags := 9, nameIndex := 109, descriptorIndex := 171, attributes := #[] }] 49 2 #[] #[])
  fields := #[]
  methods := #[k14m0, k14m1]
  instanceTypes := #[]
  staticTypes := #[]
  resolved := Array.replicate 184 none
  statics := none }

def pool15 : Array CpInfo := pool [(2, .class_ 4), (1, u "java/lang/Object"), (0, u "<init>"), (0, u "()V"), (17, .class_ 26), (1, u "jdk/internal/util/Preconditions"), (6, u "checkIndex"), (21, .class_ 56), (0, u "jdk/internal/util/Preconditions$4"), (57, .class_ 115), (0, u "jdk/internal/util/Preconditions$1"), (7, u "SIOOBE_FORMATTER"), (0, u "Ljava/util/function/BiFunction;"), (0, .class_ 126), (0, u "jdk/internal/util/Preconditions$2"), (3, u "AIOOBE_FORMATTER"), (0, .class_ 132), (0, u "jdk/internal/util/Preconditions$3"), (3, u "IOOBE_FORMATTER"), (41, u "(IILjava/util/function/BiFunction;)I")] 15

def k15m0 : Method := { name := "<init>", desc := "()V", sig := { parameters := [], returnType := none }, accessFlags := 1, code := none }
def k15c1 : Code := { maxStack := 3, maxLocals := 3, code := jdk_41_method_11_code, exceptionTable := #[], attributes := #[] }
def k15m1 : Method := { name := "checkIndex", desc := "(IILjava/util/function/BiFunction;)I", sig := { parameters := [.int, .int, (.object "java/util/function/BiFunction")], returnType := some .int }, accessFlags := 9, code := some k15c1 }
/-- jdk/internal/util/Preconditions -/
def k15 : Class := { plain "jdk/internal/util/Preconditions" (some 0) with
  accessFlags := 33
  interfaces := #[]
  cf := some (fileOf pool15 24 #[.nestMembers #[55, 131, 125, 114]] #[{ accessFlags := 1, nameIndex := 5, descriptorIndex := 6, attributes := #[] }, { accessFlags := 9, nameIndex := 33, descriptorIndex := 178, attributes := #[] }] 33 2 #[] #[{ accessFlags := 25, nameIndex := 123, descriptorIndex := 124, attributes := #[] }, { accessFlags := 25, nameIndex := 130, descriptorIndex := 124, attributes := #[] }, { accessFlags := 25, nameIndex := 136, descriptorIndex := 124, attributes := #[] }])
  fields := #[{ name := "SIOOBE_FORMATTER", type := (.object "java/util/function/BiFunction"), accessFlags := 25, slot := 0, constantValue := 0 }, { name := "AIOOBE_FORMATTER", type := (.object "java/util/function/BiFunction"), accessFlags := 25, slot := 1, constantValue := 0 }, { name := "IOOBE_FORMATTER", type := (.object "java/util/function/BiFunction"), accessFlags := 25, slot := 2, constantValue := 0 }]
  methods := #[k15m0, k15m1]
  instanceTypes := #[]
  staticTypes := #[(.object "java/util/function/BiFunction"), (.object "java/util/function/BiFunction"), (.object "java/util/function/BiFunction")]
  resolved := Array.replicate 194 none
  statics := none }

/-- the primitive boolean -/
def k16 : Class := { plain "boolean" none with kind := .primitive 'Z', accessFlags := 0x411 }
/-- [Z -/
def k17 : Class := { plain "[Z" (some 0) with kind := .array 16 .boolean, interfaces := #[10, 11], accessFlags := 1041 }

/-- the primitive byte -/
def k18 : Class := { plain "byte" none with kind := .primitive 'B', accessFlags := 0x411 }
/-- [B -/
def k19 : Class := { plain "[B" (some 0) with kind := .array 18 .byte, interfaces := #[10, 11], accessFlags := 1041 }

/-- the primitive int -/
def k20 : Class := { plain "int" none with kind := .primitive 'I', accessFlags := 0x411 }
/-- [I -/
def k21 : Class := { plain "[I" (some 0) with kind := .array 20 .int, interfaces := #[10, 11], accessFlags := 1041 }

/-- the primitive long -/
def k22 : Class := { plain "long" none with kind := .primitive 'J', accessFlags := 0x411 }
/-- [J -/
def k23 : Class := { plain "[J" (some 0) with kind := .array 22 .long, interfaces := #[10, 11], accessFlags := 1041 }

/-- [Ljava/lang/Object; -/
def k24 : Class := { plain "[Ljava/lang/Object;" (some 0) with kind := .array 0 (.object "java/lang/Object"), interfaces := #[10, 11], accessFlags := 1041 }

def k25 : Class := { plain "[[I" (some 0) with kind := .array 21 (.array .int), interfaces := #[10, 11], accessFlags := 1041 }
def k26 : Class := { plain "[[J" (some 0) with kind := .array 23 (.array .long), interfaces := #[10, 11], accessFlags := 1041 }
def heap : Heap := #[{ cls := 12, slots := #[.long 0, .int 0, .ref 1, .ref 2], vm := .statics 12 },
  { cls := 24, slots := #[], vm := .none },
  { cls := 24, slots := #[], vm := .none }]
def classes : Array Class := #[k0, k1, k2, k3, k4, k5, k6, k7, k8, k9, k10, k11, k12, k13, k14, k15, k16, k17, k18, k19, k20, k21, k22, k23, k24, k25, k26]
def interned : List (Array UInt16 × Addr) := []
def slotsUsed : Nat := 4
def theMethod : MethodId := ⟨1, 1⟩
def args0 : Array Value := #[.int 1, .int 1, .long 5]
def aboutOver (below : List Frame) : State where
  vm := { classes := classes, interned := interned.toArray }
  heap := heap
  slotsUsed := slotsUsed
  threads := #[{ frames := .invoking theMethod args0 :: below }]
def below0 : List Frame := [.native { method := ⟨0, 0⟩, args := #[] }]
def about1 : State := aboutOver below0
def p0 : Program := .bare "" "" ""
def e0 : Env := launch0.env 0 0 0
theorem w_frames : about1.frames = Frame.invoking theMethod args0 :: below0 := rfl
set_option maxRecDepth 65536 in
theorem w_args : argsFit about1.vm theMethod args0 = true := by decide +kernel
set_option maxRecDepth 65536 in
theorem w_heap : heapFits about1 = true := by decide +kernel
set_option maxRecDepth 65536 in
theorem w_runnable : about1.curStatus? = some .runnable := by decide +kernel
set_option maxRecDepth 65536 in
theorem w_alone : about1.alone = true := by decide +kernel
set_option maxRecDepth 65536 in
theorem w_named : about1.methodNamed? x = some theMethod := by decide +kernel
set_option maxRecDepth 65536 in
theorem w_hears : about1.hears theMethod below0 = true := by decide +kernel
set_option maxRecDepth 65536 in
theorem w_ripe : about1.ripe theMethod args0 below0 = true := by decide +kernel
theorem w_running : about1.status = .running := rfl
set_option maxRecDepth 65536 in
theorem w_room : about1.hasRoom e0.platform room_1 = true :=
  launch0.hasRoom_least _ room_1 (by decide +kernel) (by decide +kernel) (by decide +kernel) (by decide +kernel) (by decide +kernel) (by decide +kernel)
theorem allAtoms_all (ts : List Jvm.Cond) (a : Array Jvm.Value) (st : Jvm.State) : (allAtoms ts).before a st = ts.all (fun c => c.before a st) := by
  induction ts with
  | nil => rfl
  | cons c t ih =>
    show (Jvm.Cond.and c (allAtoms t)).before a st = _
    rw [Jvm.Cond.before_and, ih, List.all_cons]
def words1 : List Jvm.Cond := Jvm.Cond.code x code maxLocals ret :: tables_1
/-- a 'code' word, met by the world's own term for the bytes: nothing is compared byte by byte -/
theorem code_word {y : MethodName} {bytes : ByteArray} {mx : Nat} {rt : Option FieldType} {a : Array Value} {s : State} {m : MethodId} {meth : Method} {c : Code} (h1 : s.methodNamed? y = some m) (h2 : s.vm.method? m = some meth) (h3 : meth.code = some c) (h4 : c.code = bytes)
    (h5 : (c.maxLocals == mx && c.exceptionTable.isEmpty && decide (c.maxStack ≤ mostOperands) && decide (meth.sig.returnType = rt) && !meth.locks && decide (parseMethodDescriptor y.desc = some meth.sig)) = true) : (Jvm.Cond.code y bytes mx rt).before a s = true := by
  simp only [Bool.and_eq_true, beq_iff_eq, Bool.not_eq_true', decide_eq_true_eq] at h5
  obtain ⟨⟨⟨⟨⟨g1, g2⟩, g3⟩, g4⟩, g5⟩, g6⟩ := h5
  simp [Cond.before, Cond.holds, Cond.value, h1, h2, h3, h4, g1, g2, g3, g4, g5, g6]
def isCode : Jvm.Cond → Bool
  | .code _ _ _ _ => true
  | _ => false
theorem all_split {L : List Jvm.Cond} {P : Jvm.Cond → Bool} (h1 : L.all (fun c => isCode c || P c) = true) (h2 : ∀ c ∈ L.filter isCode, P c = true) : L.all P = true := by
  refine List.all_eq_true.mpr fun c hc => ?_
  have h := List.all_eq_true.mp h1 c hc
  rcases Bool.eq_false_or_eq_true (isCode c) with hi | hi
  · exact h2 c (List.mem_filter.mpr ⟨hc, hi⟩)
  · simpa [hi] using h
set_option maxRecDepth 65536 in
theorem w_c0 : (Jvm.Cond.code x code maxLocals ret).before args0 about1 = true := code_word (m := ⟨1, 1⟩) (meth := k1m1) (c := k1c1) (by decide +kernel) rfl rfl rfl (by decide +kernel)
set_option maxRecDepth 65536 in
theorem w_c1 : (Jvm.Cond.code ({ cls := "com/example/libakin/libakin/simhash/Layout", name := "<init>", desc := "(II)V" } : Jvm.MethodName) prog_28_method_1_code (13 : Nat) (Option.none : Option Jvm.ClassFile.FieldType)).before args0 about1 = true := code_word (m := ⟨2, 0⟩) (meth := k2m0) (c := k2c0) (by decide +kernel) rfl rfl rfl (by decide +kernel)
set_option maxRecDepth 65536 in
theorem w_c2 : (Jvm.Cond.code ({ cls := "java/lang/Object", name := "<init>", desc := "()V" } : Jvm.MethodName) object_method_1_code (1 : Nat) (Option.none : Option Jvm.ClassFile.FieldType)).before args0 about1 = true := code_word (m := ⟨0, 0⟩) (meth := k0m0) (c := k0c0) (by decide +kernel) rfl rfl rfl (by decide +kernel)
set_option maxRecDepth 65536 in
theorem w_c3 : (Jvm.Cond.code ({ cls := "java/util/ArrayList", name := "<init>", desc := "()V" } : Jvm.MethodName) jdk_38_method_2_code (1 : Nat) (Option.none : Option Jvm.ClassFile.FieldType)).before args0 about1 = true := code_word (m := ⟨12, 0⟩) (meth := k12m0) (c := k12c0) (by decide +kernel) rfl rfl rfl (by decide +kernel)
set_option maxRecDepth 65536 in
theorem w_c4 : (Jvm.Cond.code ({ cls := "java/util/AbstractList", name := "<init>", desc := "()V" } : Jvm.MethodName) jdk_39_method_1_code (1 : Nat) (Option.none : Option Jvm.ClassFile.FieldType)).before args0 about1 = true := code_word (m := ⟨8, 0⟩) (meth := k8m0) (c := k8c0) (by decide +kernel) rfl rfl rfl (by decide +kernel)
set_option maxRecDepth 65536 in
theorem w_c5 : (Jvm.Cond.code ({ cls := "java/util/AbstractCollection", name := "<init>", desc := "()V" } : Jvm.MethodName) jdk_22_method_1_code (1 : Nat) (Option.none : Option Jvm.ClassFile.FieldType)).before args0 about1 = true := code_word (m := ⟨5, 0⟩) (meth := k5m0) (c := k5c0) (by decide +kernel) rfl rfl rfl (by decide +kernel)
set_option maxRecDepth 65536 in
theorem w_c6 : (Jvm.Cond.code ({ cls := "com/example/libakin/libakin/simhash/Layout", name := "choose", desc := "(III[IILjava/util/List;)V" } : Jvm.MethodName) prog_28_method_10_code (7 : Nat) (Option.none : Option Jvm.ClassFile.FieldType)).before args0 about1 = true := code_word (m := ⟨2, 3⟩) (meth := k2m3) (c := k2c3) (by decide +kernel) rfl rfl rfl (by decide +kernel)
set_option maxRecDepth 65536 in
theorem w_c7 : (Jvm.Cond.code ({ cls := "java/util/ArrayList", name := "add", desc := "(Ljava/lang/Object;)Z" } : Jvm.MethodName) jdk_38_method_25_code (2 : Nat) (Option.some Jvm.ClassFile.FieldType.boolean)).before args0 about1 = true := code_word (m := ⟨12, 7⟩) (meth := k12m7) (c := k12c7) (by decide +kernel) rfl rfl rfl (by decide +kernel)
set_option maxRecDepth 65536 in
theorem w_c8 : (Jvm.Cond.code ({ cls := "java/util/ArrayList", name := "add", desc := "(Ljava/lang/Object;[Ljava/lang/Object;I)V" } : Jvm.MethodName) jdk_38_method_24_code (4 : Nat) (Option.none : Option Jvm.ClassFile.FieldType)).before args0 about1 = true := code_word (m := ⟨12, 6⟩) (meth := k12m6) (c := k12c6) (by decide +kernel) rfl rfl rfl (by decide +kernel)
set_option maxRecDepth 65536 in
theorem w_c9 : (Jvm.Cond.code ({ cls := "java/util/ArrayList", name := "grow", desc := "()[Ljava/lang/Object;" } : Jvm.MethodName) jdk_38_method_7_code (1 : Nat) (Option.some (Jvm.ClassFile.FieldType.array (Jvm.ClassFile.FieldType.object "java/lang/Object")))).before args0 about1 = true := code_word (m := ⟨12, 2⟩) (meth := k12m2) (c := k12c2) (by decide +kernel) rfl rfl rfl (by decide +kernel)
set_option maxRecDepth 65536 in
theorem w_c10 : (Jvm.Cond.code ({ cls := "java/util/ArrayList", name := "grow", desc := "(I)[Ljava/lang/Object;" } : Jvm.MethodName) jdk_38_method_6_code (4 : Nat) (Option.some (Jvm.ClassFile.FieldType.array (Jvm.ClassFile.FieldType.object "java/lang/Object")))).before args0 about1 = true := code_word (m := ⟨12, 1⟩) (meth := k12m1) (c := k12c1) (by decide +kernel) rfl rfl rfl (by decide +kernel)
set_option maxRecDepth 65536 in
theorem w_c11 : (Jvm.Cond.code ({ cls := "java/lang/Math", name := "max", desc := "(II)I" } : Jvm.MethodName) jdk_29_method_65_code (2 : Nat) (Option.some Jvm.ClassFile.FieldType.int)).before args0 about1 = true := code_word (m := ⟨13, 1⟩) (meth := k13m1) (c := k13c1) (by decide +kernel) rfl rfl rfl (by decide +kernel)
set_option maxRecDepth 65536 in
theorem w_c12 : (Jvm.Cond.code ({ cls := "java/util/ArrayList", name := "size", desc := "()I" } : Jvm.MethodName) jdk_38_method_8_code (1 : Nat) (Option.some Jvm.ClassFile.FieldType.int)).before args0 about1 = true := code_word (m := ⟨12, 3⟩) (meth := k12m3) (c := k12c3) (by decide +kernel) rfl rfl rfl (by decide +kernel)
set_option maxRecDepth 65536 in
theorem w_c13 : (Jvm.Cond.code ({ cls := "java/util/ArrayList", name := "get", desc := "(I)Ljava/lang/Object;" } : Jvm.MethodName) jdk_38_method_20_code (2 : Nat) (Option.some (Jvm.ClassFile.FieldType.object "java/lang/Object"))).before args0 about1 = true := code_word (m := ⟨12, 5⟩) (meth := k12m5) (c := k12c5) (by decide +kernel) rfl rfl rfl (by decide +kernel)
set_option maxRecDepth 65536 in
theorem w_c14 : (Jvm.Cond.code ({ cls := "java/util/Objects", name := "checkIndex", desc := "(II)I" } : Jvm.MethodName) jdk_31_method_17_code (2 : Nat) (Option.some Jvm.ClassFile.FieldType.int)).before args0 about1 = true := code_word (m := ⟨14, 1⟩) (meth := k14m1) (c := k14c1) (by decide +kernel) rfl rfl rfl (by decide +kernel)
set_option maxRecDepth 65536 in
theorem w_c15 : (Jvm.Cond.code ({ cls := "jdk/internal/util/Preconditions", name := "checkIndex", desc := "(IILjava/util/function/BiFunction;)I" } : Jvm.MethodName) jdk_41_method_11_code (3 : Nat) (Option.some Jvm.ClassFile.FieldType.int)).before args0 about1 = true := code_word (m := ⟨15, 1⟩) (meth := k15m1) (c := k15c1) (by decide +kernel) rfl rfl rfl (by decide +kernel)
set_option maxRecDepth 65536 in
theorem w_c16 : (Jvm.Cond.code ({ cls := "java/util/ArrayList", name := "elementData", desc := "(I)Ljava/lang/Object;" } : Jvm.MethodName) jdk_38_method_18_code (2 : Nat) (Option.some (Jvm.ClassFile.FieldType.object "java/lang/Object"))).before args0 about1 = true := code_word (m := ⟨12, 4⟩) (meth := k12m4) (c := k12c4) (by decide +kernel) rfl rfl rfl (by decide +kernel)
set_option maxRecDepth 65536 in
theorem w_c17 : (Jvm.Cond.code ({ cls := "com/example/libakin/libakin/simhash/Layout", name := "key", desc := "(IJ)J" } : Jvm.MethodName) prog_28_method_6_code (9 : Nat) (Option.some Jvm.ClassFile.FieldType.long)).before args0 about1 = true := code_word (m := ⟨2, 1⟩) (meth := k2m1) (c := k2c1) (by decide +kernel) rfl rfl rfl (by decide +kernel)
set_option maxRecDepth 65536 in
theorem w_c18 : (Jvm.Cond.code ({ cls := "com/example/libakin/libakin/simhash/LayoutKeyPinLaw", name := "expected", desc := "(IIJ)J" } : Jvm.MethodName) method_3_code (12 : Nat) (Option.some Jvm.ClassFile.FieldType.long)).before args0 about1 = true := code_word (m := ⟨1, 2⟩) (meth := k1m2) (c := k1c2) (by decide +kernel) rfl rfl rfl (by decide +kernel)
set_option maxRecDepth 65536 in
theorem w_c19 : (Jvm.Cond.code ({ cls := "com/example/libakin/libakin/simhash/Layout", name := "unkeyedPrefix", desc := "(I)J" } : Jvm.MethodName) prog_28_method_8_code (6 : Nat) (Option.some Jvm.ClassFile.FieldType.long)).before args0 about1 = true := code_word (m := ⟨2, 2⟩) (meth := k2m2) (c := k2c2) (by decide +kernel) rfl rfl rfl (by decide +kernel)
def codes1 : List Jvm.Cond := [Jvm.Cond.code x code maxLocals ret, Jvm.Cond.code ({ cls := "com/example/libakin/libakin/simhash/Layout", name := "<init>", desc := "(II)V" } : Jvm.MethodName) prog_28_method_1_code (13 : Nat) (Option.none : Option Jvm.ClassFile.FieldType), Jvm.Cond.code ({ cls := "java/lang/Object", name := "<init>", desc := "()V" } : Jvm.MethodName) object_method_1_code (1 : Nat) (Option.none : Option Jvm.ClassFile.FieldType), Jvm.Cond.code ({ cls := "java/util/ArrayList", name := "<init>", desc := "()V" } : Jvm.MethodName) jdk_38_method_2_code (1 : Nat) (Option.none : Option Jvm.ClassFile.FieldType), Jvm.Cond.code ({ cls := "java/util/AbstractList", name := "<init>", desc := "()V" } : Jvm.MethodName) jdk_39_method_1_code (1 : Nat) (Option.none : Option Jvm.ClassFile.FieldType), Jvm.Cond.code ({ cls := "java/util/AbstractCollection", name := "<init>", desc := "()V" } : Jvm.MethodName) jdk_22_method_1_code (1 : Nat) (Option.none : Option Jvm.ClassFile.FieldType), Jvm.Cond.code ({ cls := "com/example/libakin/libakin/simhash/Layout", name := "choose", desc := "(III[IILjava/util/List;)V" } : Jvm.MethodName) prog_28_method_10_code (7 : Nat) (Option.none : Option Jvm.ClassFile.FieldType), Jvm.Cond.code ({ cls := "java/util/ArrayList", name := "add", desc := "(Ljava/lang/Object;)Z" } : Jvm.MethodName) jdk_38_method_25_code (2 : Nat) (Option.some Jvm.ClassFile.FieldType.boolean), Jvm.Cond.code ({ cls := "java/util/ArrayList", name := "add", desc := "(Ljava/lang/Object;[Ljava/lang/Object;I)V" } : Jvm.MethodName) jdk_38_method_24_code (4 : Nat) (Option.none : Option Jvm.ClassFile.FieldType), Jvm.Cond.code ({ cls := "java/util/ArrayList", name := "grow", desc := "()[Ljava/lang/Object;" } : Jvm.MethodName) jdk_38_method_7_code (1 : Nat) (Option.some (Jvm.ClassFile.FieldType.array (Jvm.ClassFile.FieldType.object "java/lang/Object"))), Jvm.Cond.code ({ cls := "java/util/ArrayList", name := "grow", desc := "(I)[Ljava/lang/Object;" } : Jvm.MethodName) jdk_38_method_6_code (4 : Nat) (Option.some (Jvm.ClassFile.FieldType.array (Jvm.ClassFile.FieldType.object "java/lang/Object"))), Jvm.Cond.code ({ cls := "java/lang/Math", name := "max", desc := "(II)I" } : Jvm.MethodName) jdk_29_method_65_code (2 : Nat) (Option.some Jvm.ClassFile.FieldType.int), Jvm.Cond.code ({ cls := "java/util/ArrayList", name := "size", desc := "()I" } : Jvm.MethodName) jdk_38_method_8_code (1 : Nat) (Option.some Jvm.ClassFile.FieldType.int), Jvm.Cond.code ({ cls := "java/util/ArrayList", name := "get", desc := "(I)Ljava/lang/Object;" } : Jvm.MethodName) jdk_38_method_20_code (2 : Nat) (Option.some (Jvm.ClassFile.FieldType.object "java/lang/Object")), Jvm.Cond.code ({ cls := "java/util/Objects", name := "checkIndex", desc := "(II)I" } : Jvm.MethodName) jdk_31_method_17_code (2 : Nat) (Option.some Jvm.ClassFile.FieldType.int), Jvm.Cond.code ({ cls := "jdk/internal/util/Preconditions", name := "checkIndex", desc := "(IILjava/util/function/BiFunction;)I" } : Jvm.MethodName) jdk_41_method_11_code (3 : Nat) (Option.some Jvm.ClassFile.FieldType.int), Jvm.Cond.code ({ cls := "java/util/ArrayList", name := "elementData", desc := "(I)Ljava/lang/Object;" } : Jvm.MethodName) jdk_38_method_18_code (2 : Nat) (Option.some (Jvm.ClassFile.FieldType.object "java/lang/Object")), Jvm.Cond.code ({ cls := "com/example/libakin/libakin/simhash/Layout", name := "key", desc := "(IJ)J" } : Jvm.MethodName) prog_28_method_6_code (9 : Nat) (Option.some Jvm.ClassFile.FieldType.long), Jvm.Cond.code ({ cls := "com/example/libakin/libakin/simhash/LayoutKeyPinLaw", name := "expected", desc := "(IIJ)J" } : Jvm.MethodName) method_3_code (12 : Nat) (Option.some Jvm.ClassFile.FieldType.long), Jvm.Cond.code ({ cls := "com/example/libakin/libakin/simhash/Layout", name := "unkeyedPrefix", desc := "(I)J" } : Jvm.MethodName) prog_28_method_8_code (6 : Nat) (Option.some Jvm.ClassFile.FieldType.long)]
set_option maxRecDepth 65536 in
theorem codes_eq : words1.filter isCode = codes1 := rfl
theorem w_codes : ∀ c ∈ words1.filter isCode, c.before args0 about1 = true := by
  rw [codes_eq]
  intro c hc
  simp only [codes1, List.mem_cons, List.not_mem_nil, or_false] at hc
  rcases hc with rfl | rfl | rfl | rfl | rfl | rfl | rfl | rfl | rfl | rfl | rfl | rfl | rfl | rfl | rfl | rfl | rfl | rfl | rfl | rfl
  · exact w_c0
  · exact w_c1
  · exact w_c2
  · exact w_c3
  · exact w_c4
  · exact w_c5
  · exact w_c6
  · exact w_c7
  · exact w_c8
  · exact w_c9
  · exact w_c10
  · exact w_c11
  · exact w_c12
  · exact w_c13
  · exact w_c14
  · exact w_c15
  · exact w_c16
  · exact w_c17
  · exact w_c18
  · exact w_c19
set_option maxRecDepth 65536 in
theorem w_t1 : (words1.take 24).all (fun c => isCode c || c.before args0 about1) = true := by decide +kernel
set_option maxRecDepth 65536 in
theorem w_t2 : ((words1.drop 24).take 24).all (fun c => isCode c || c.before args0 about1) = true := by decide +kernel
set_option maxRecDepth 65536 in
theorem w_t3 : (((words1.drop 24).drop 24).take 24).all (fun c => isCode c || c.before args0 about1) = true := by decide +kernel
set_option maxRecDepth 65536 in
theorem w_t4 : ((((words1.drop 24).drop 24).drop 24).take 24).all (fun c => isCode c || c.before args0 about1) = true := by decide +kernel
set_option maxRecDepth 65536 in
theorem w_t5 : (((((words1.drop 24).drop 24).drop 24).drop 24).take 24).all (fun c => isCode c || c.before args0 about1) = true := by decide +kernel
set_option maxRecDepth 65536 in
theorem w_t6 : (((((words1.drop 24).drop 24).drop 24).drop 24).drop 24).all (fun c => isCode c || c.before args0 about1) = true := by decide +kernel
theorem w_tables : (allAtoms (Jvm.Cond.code x code maxLocals ret :: tables_1)).before args0 about1 = true := by
  rw [allAtoms_all]
  show words1.all (fun c => c.before args0 about1) = true
  refine all_split ?_ w_codes
  rw [← List.take_append_drop 24 words1, List.all_append, w_t1, ← List.take_append_drop 24 (words1.drop 24), List.all_append, w_t2, ← List.take_append_drop 24 ((words1.drop 24).drop 24), List.all_append, w_t3, ← List.take_append_drop 24 (((words1.drop 24).drop 24).drop 24), List.all_append, w_t4, ← List.take_append_drop 24 ((((words1.drop 24).drop 24).drop 24).drop 24), List.all_append, w_t5, w_t6]
  rfl
set_option maxRecDepth 65536 in
theorem w_rest : rest_1_c.before args0 about1 = true := by decide +kernel
set_option maxRecDepth 65536 in
theorem w_case : (Jvm.Cond.and given_1 narrow_1).before args0 about1 = true := by decide +kernel
theorem w_applies : (headSpec (Jvm.Cond.code x code maxLocals ret :: tables_1) room_1).applies x e0.platform about1 = true :=
  (Spec.applies_iff w_frames).mpr ⟨w_running, w_runnable, w_alone, w_named, w_hears, w_ripe, w_room, w_tables⟩
theorem atStart : AtStart classFile x code maxLocals ret World_1 tables_1 room_1 Calls_1 rest_1 Pre_1 launch0 p0 e0 about1 theMethod args0 below0 :=
  ⟨lists_1, trivial, launch0.admits_env _ _ _, launch0.least_env, fairChoices_fair.cas, fairChoices_fair.clock, w_frames, w_args, w_heap, w_applies, trivial, w_rest, w_case⟩
end start1
theorem witness_1 : WitnessClaimed_1 := ⟨start1.p0, start1.e0, start1.about1, start1.theMethod, start1.args0, start1.below0, start1.atStart⟩
end Jvm.Pilot.@@N@@
